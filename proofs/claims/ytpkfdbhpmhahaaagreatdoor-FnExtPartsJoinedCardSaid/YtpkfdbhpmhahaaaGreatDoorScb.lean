/- A value that has no parts: its text. -/
import Derived.Test.YtpkfdbhpmhahaaaGreatDoorSca
import Derived.Test.YtpkfdbhpmhahaaaGreatDoorWsj
import Derived.Test.YtpkfdbhpmhahaaaGreatDoorLfe
import Derived.Test.YtpkfdbhpmhahaaaGreatDoorLfs
import Derived.Test.YtpkfdbhpmhahaaaGreatDoorLfz
import Derived.Test.YtpkfdbhpmhahaaaGreatDoorLfo
import Derived.Test.YtpkfdbhpmhahaaaGreatDoorFeh
namespace Go.Proofs.YtpkfdbhpmhahaaaGreatDoor
open Go Go.RowKit
set_option linter.unusedSimpArgs false
set_option linter.unusedVariables false

theorem part_le (x : ByteArray) (a b : Nat) : (part x a b).length ≤ b - a ∧ (part x a b).length ≤ x.size - a := by
  unfold part
  have : x.data.toList.length = x.size := rfl
  simp only [List.length_take, List.length_drop]
  omega
theorem escAt_len {x : ByteArray} {i L : Nat} {e : List UInt8} (h : escAt x i = (L, some e)) : e.length ≤ 6 := by
  unfold escAt at h
  have h6 := escE_length
  split at h
  · rename_i hi
    have h7 := h6 (x[i]'hi).toNat
    split at h
    · split at h
      · cases h
      · cases h; exact h7
    · split at h
      · cases h; decide
      · split at h
        · cases h; decide
        · split at h
          · cases h; decide
          · cases h
  · cases h
theorem escL_length (x : ByteArray) : ∀ (f st i : Nat), st ≤ i → (escL x f st i).length ≤ (x.size - st) + 6 * f + 1
  | 0, st, i, h => by unfold escL; simp
  | f + 1, st, i, h => by
    unfold escL
    split
    · rename_i hi
      split
      · rename_i L he
        have := escL_length x f st (i + L) (by omega)
        omega
      · rename_i L e he
        have h1 := escL_length x f (i + L) (i + L) (Nat.le_refl _)
        have h2 := escAt_len he
        have h3 := part_le x st i
        simp only [List.length_append]
        omega
    · have h3 := part_le x st x.size
      simp only [List.length_append, List.length_cons, List.length_nil]
      omega
theorem escT_length (x : ByteArray) (h : x.size ≤ 300) : (escT x).length ≤ 2200 ∧ 0 < (escT x).length := by
  have h1 := escL_length x (x.size + 1) 0 0 (Nat.le_refl _)
  unfold escT
  simp only [List.length_cons]
  omega

/-- All bytes are small letters. -/
def Letters (m : ByteArray) : Prop := ∀ i (h : i < m.size), 97 ≤ (m[i]'h).toNat ∧ (m[i]'h).toNat ≤ 122
theorem runesL_low (s : ByteArray) (hs : Letters s) : ∀ (b i : Nat), ∀ x ∈ runesL s b i, 0 ≤ x ∧ x < 128
  | 0, i, x, h => by simp [runesL] at h
  | b + 1, i, x, h => by
    unfold runesL at h
    split at h
    · rename_i hi
      have h1 := hs i hi
      rw [decode_ascii s i hi (by omega)] at h
      rcases List.mem_cons.1 h with rfl | h2
      · simp only [Int.ofNat_eq_natCast]; omega
      · exact runesL_low s hs b _ x h2
    · simp at h
theorem sortD_mem (d : Array Int) (x : Int) (h : x ∈ (sortD d).toList) : x ∈ d.toList := by
  unfold sortD at h
  split at h
  · exact h
  · have hp := (Go.Sort.pdq_sorts Go.Sort.ltInt Go.Sort.swo_ltInt d 0 d.size (Lib.bitLen d.size) true true (Nat.zero_le _) (Nat.le_refl _) (Or.inl rfl)).1
    have hperm := hp.2.2
    have hsz := hp.1
    have e0 : ∀ (A : Array Int) (n : Nat), n = A.size → A.extract 0 n = A := fun A n h => by rw [h]; exact Array.extract_size
    have e1 := e0 _ _ hsz.symm
    have e2 : d.extract 0 d.size = d := Array.extract_size
    rw [e1, e2] at hperm
    exact hperm.mem_iff.1 h
theorem runes_size (l : List Int) (hl : ∀ x ∈ l, 0 ≤ x ∧ x < 128) : ∀ acc : ByteArray, (l.foldl (fun r n => r ++ Utf8.encode n) acc).size = acc.size + l.length := by
  induction l with
  | nil => intro acc; rfl
  | cons a t ih =>
    intro acc
    have h1 := hl a (by simp)
    rw [List.foldl_cons, ih (fun x hx => hl x (by simp [hx])), ByteArray.size_append, List.length_cons]
    have e : (Utf8.encode a).size = 1 := by
      obtain ⟨n, rfl⟩ : ∃ n : Nat, a = n := ⟨a.toNat, by omega⟩
      have h2 : n < 128 := by omega
      have all : ∀ k : _root_.Fin 128, (Utf8.encode ((k.val : Nat) : Int)).size = 1 := by decide +kernel
      exact all ⟨n, h2⟩
    omega
theorem sortT_size (s : ByteArray) (hs : Letters s) : (sortT s).size ≤ s.size := by
  have h1 := runesL_length s s.size 0
  have h2 := sortD_size (runesL s s.size 0).toArray
  unfold sortT
  show (List.foldl _ _ _ : ByteArray).size ≤ _
  rw [runes_size _ (fun x hx => by
    have h3 := sortD_mem _ x hx
    exact runesL_low s hs s.size 0 x (by simpa using h3))]
  have h4 : (sortD (runesL s s.size 0).toArray).toList.length = (runesL s s.size 0).length := by rw [Array.length_toList, h2, List.size_toArray]
  rw [h4]
  have e0 : ByteArray.empty.size = 0 := rfl
  omega

structure SmallN (K : Int) (t m : ByteArray) (n b h : Int) (bs : List UInt8) : Prop where
  ht : t.size ≤ 300
  hm : m.size ≤ 300
  hbs : bs.length ≤ 300
  hn : I64R n
  hb : U64 b
  hh : U64 h
  hl : K = 11 → Letters m

def Ends (l : List UInt8) : Prop := ∃ l', l = l' ++ [44]
theorem ends_add (l : List UInt8) : Ends (l ++ [44]) := ⟨l, rfl⟩
theorem WF.pre {base gw : Nat} {iv : Value} {can : Bool} {bs : List UInt8} {ms1 : List Int} {m1 : Int} {gs : Nat} {bv : Value} {w wA W : World} (h : WF base gw iv can bs ms1 m1 gs bv wA W) (hb : Below w.heap.size w wA) : WF base gw iv can bs ms1 m1 gs bv w W := by
  obtain ⟨bv', gs', n', cap', h1, h2⟩ := h
  exact ⟨bv', gs', n', cap', h1, h2.pre hb⟩
theorem below_tr {w W W2 : World} (h : Below w.heap.size w W) (k : Below W.heap.size W W2) : Below w.heap.size w W2 := h.trans (k.mono h.size)

/-- The writer's call at a value without parts: it writes l. -/
def ScW (can : Bool) (K : Int) (t m : ByteArray) (n b h : Int) (bs l : List UInt8) : Prop :=
  ∀ (base gw : Nat) (iv : Value) (bs0 : List UInt8) (ms1 : List Int) (m1 mm : Int) (bv : Value) (gs n' cap : Nat) (w : World), Wr base gw iv can bs0 (ms1 ++ [m1]) mm bv gs n' cap w → (mm = 4 ∨ mm = 5) → 13 ≤ base → Tabs w → bs0.length ≤ 800000000 →
    ∀ (ba ka : Option Addr) (bn bc kn kc : Nat), bn = bs.length → bn ≤ bc → (bs ≠ [] → ∃ g o, ba = some ⟨g, o, none⟩ ∧ g < base ∧ w.rangeAt g o (Lib.byteCells bs)) →
      Calls Tryz.prog 44 #[.pointer (some ⟨gw, 0, none⟩), .agg (vcells K t m n b h (.slice ba bn bc) (.slice ka kn kc))] w (NilR (WF base gw iv can (bs0 ++ l) ms1 m1 gs bv w))
def Sc1 (can : Bool) (K : Int) (t m : ByteArray) (n b h : Int) (bs : List UInt8) : Prop := ∃ l : List UInt8, Ends l ∧ l.length ≤ 20000 ∧ ScW can K t m n b h bs l

theorem itoa_pos (n : Int) : 0 < (Lib.itoa n).length := by
  have hp : ∀ u, 0 < (Lib.decDigits u).length := fun u => by
    rw [Lib.decDigits_length]
    have h1 := Lib.lt_pow_nDigits u
    rcases Nat.eq_zero_or_pos (Lib.nDigits u) with h0 | h0
    · rw [h0] at h1
      have h2 := Lib.nDigits_small (u := u) (by omega)
      omega
    · exact h0
  rcases Int.lt_or_le n 0 with h | h
  · obtain ⟨u, rfl⟩ : ∃ u : Nat, n = -(u : Int) := ⟨n.natAbs, by omega⟩
    rw [Lib.itoa_neg u (by omega)]
    simp
  · obtain ⟨u, rfl⟩ : ∃ u : Nat, n = (u : Int) := ⟨n.toNat, by omega⟩
    rw [Lib.itoa_nonneg]
    exact hp u
theorem dblTxt_len (can : Bool) (it : ByteArray) (h : it.size ≤ 110) : (dblTxt can it).length ≤ 500 := by
  have he := esv_size ⟨#[110, 117, 109, 98, 101, 114, 68, 111, 117, 98, 108, 101]⟩ it true
  have hk : (⟨#[110, 117, 109, 98, 101, 114, 68, 111, 117, 98, 108, 101]⟩ : ByteArray).size ≤ 20 := by decide
  unfold dblTxt
  split
  · rw [data_length]; omega
  · split
    · decide
    · split
      · decide
      · split
        · decide
        · rw [data_length]; omega
theorem numTxt_len (can : Bool) (key it : ByteArray) (h1 : key.size ≤ 20) (h2 : it.size ≤ 400) : (numTxt can key it).length ≤ 500 := by
  unfold numTxt
  have he := esv_size key it true
  cases can <;> simp only [if_true, if_false, Bool.false_eq_true, data_length] <;> omega

theorem scal1 (can : Bool) (t m : ByteArray) (n b h : Int) (bs : List UInt8) (hs : SmallN 1 t m n b h bs) : Sc1 can 1 t m n b h bs := by
  have hb := hs.hb
  unfold U64 at hb
  obtain ⟨D, hD0, hD1, hD⟩ := fmtDouble b.toNat (by omega)
  refine ⟨dblTxt can D ++ [44], ends_add _, by have := dblTxt_len can D hD1; simp only [List.length_append, List.length_cons, List.length_nil]; omega, fun base gw iv bs0 ms1 m1 mm bv gs n' cap w hw hm hB hT hbl ba ka bn bc kn kc hbn hbc hBA => ?_⟩
  exact sc1 gw t m n b h ba ka bn bc kn kc w _ (fun W hb => ((hw.bel hb).wDouble hm hB (hT.bel hb hT.big) hbl (.float .f64 b.toNat) D (by omega) hD0 hD).mono fun e w' ⟨he, hr⟩ => ⟨he, by rw [List.append_assoc] at hr; exact hr.pre hb⟩)

theorem scal2 (can : Bool) (t m : ByteArray) (n b h : Int) (bs : List UInt8) (hs : SmallN 2 t m n b h bs) : Sc1 can 2 t m n b h bs := by
  have hel := escT_length t hs.ht
  refine ⟨escT t ++ [44], ends_add _, by simp; omega, fun base gw iv bs0 ms1 m1 mm bv gs n' cap w hw hm hB hT hbl ba ka bn bc kn kc hbn hbc hBA => ?_⟩
  exact sc2 gw t m n b h ba ka bn bc kn kc w _ (fun W hb => ((hw.bel hb).wString hm hB (hT.bel hb hT.big) hbl t (escT t) (by omega) (escC t (by have := hs.ht; omega)) hel.2).mono fun e w' ⟨he, hr⟩ => ⟨he, by rw [List.append_assoc] at hr; exact hr.pre hb⟩)

theorem scal6 (can : Bool) (t m : ByteArray) (n b h : Int) (bs : List UInt8) (hs : SmallN 6 t m n b h bs) : Sc1 can 6 t m n b h bs := by
  refine ⟨(esv ⟨#[117, 110, 100, 101, 102, 105, 110, 101, 100]⟩ ⟨#[116, 114, 117, 101]⟩ false).data.toList ++ [44], ends_add _, by decide, fun base gw iv bs0 ms1 m1 mm bv gs n' cap w hw hm hB hT hbl ba ka bn bc kn kc hbn hbc hBA => ?_⟩
  exact sc6 gw t m n b h ba ka bn bc kn kc w _ (fun W hb => ((hw.bel hb).wUndefined hm hB (hT.bel hb hT.big) hbl ).mono fun e w' ⟨he, hr⟩ => ⟨he, by rw [List.append_assoc] at hr; exact hr.pre hb⟩)

theorem scal10 (can : Bool) (t m : ByteArray) (n b h : Int) (bs : List UInt8) (hs : SmallN 10 t m n b h bs) : Sc1 can 10 t m n b h bs := by
  refine ⟨(⟨#[110, 117, 108, 108]⟩ : ByteArray).data.toList ++ [44], ends_add _, by decide, fun base gw iv bs0 ms1 m1 mm bv gs n' cap w hw hm hB hT hbl ba ka bn bc kn kc hbn hbc hBA => ?_⟩
  exact sc10 gw t m n b h ba ka bn bc kn kc w _ (fun W hb => ((hw.bel hb).wNull hm hB (hT.bel hb hT.big) hbl ).mono fun e w' ⟨he, hr⟩ => ⟨he, by rw [List.append_assoc] at hr; exact hr.pre hb⟩)

theorem scal255 (can : Bool) (t m : ByteArray) (n b h : Int) (bs : List UInt8) (hs : SmallN 255 t m n b h bs) : Sc1 can 255 t m n b h bs := by
  refine ⟨(esv ⟨#[109, 105, 110, 75, 101, 121]⟩ ⟨#[49]⟩ false).data.toList ++ [44], ends_add _, by decide, fun base gw iv bs0 ms1 m1 mm bv gs n' cap w hw hm hB hT hbl ba ka bn bc kn kc hbn hbc hBA => ?_⟩
  exact sc255 gw t m n b h ba ka bn bc kn kc w _ (fun W hb => ((hw.bel hb).wMinKey hm hB (hT.bel hb hT.big) hbl ).mono fun e w' ⟨he, hr⟩ => ⟨he, by rw [List.append_assoc] at hr; exact hr.pre hb⟩)

theorem scal127 (can : Bool) (t m : ByteArray) (n b h : Int) (bs : List UInt8) (hs : SmallN 127 t m n b h bs) : Sc1 can 127 t m n b h bs := by
  refine ⟨(esv ⟨#[109, 97, 120, 75, 101, 121]⟩ ⟨#[49]⟩ false).data.toList ++ [44], ends_add _, by decide, fun base gw iv bs0 ms1 m1 mm bv gs n' cap w hw hm hB hT hbl ba ka bn bc kn kc hbn hbc hBA => ?_⟩
  exact sc127 gw t m n b h ba ka bn bc kn kc w _ (fun W hb => ((hw.bel hb).wMaxKey hm hB (hT.bel hb hT.big) hbl ).mono fun e w' ⟨he, hr⟩ => ⟨he, by rw [List.append_assoc] at hr; exact hr.pre hb⟩)

theorem scal18 (can : Bool) (t m : ByteArray) (n b h : Int) (bs : List UInt8) (hs : SmallN 18 t m n b h bs) : Sc1 can 18 t m n b h bs := by
  have hit := itoa_size n hs.hn
  have hip : 0 < (⟨(Lib.itoa n).toArray⟩ : ByteArray).size := by have h1 := itoa_pos n; simpa [ByteArray.size] using h1
  refine ⟨numTxt can ⟨#[110, 117, 109, 98, 101, 114, 76, 111, 110, 103]⟩ ⟨(Lib.itoa n).toArray⟩ ++ [44], ends_add _, by have := numTxt_len can ⟨#[110, 117, 109, 98, 101, 114, 76, 111, 110, 103]⟩ ⟨(Lib.itoa n).toArray⟩ (by decide) (by omega); simp only [List.length_append, List.length_cons, List.length_nil]; omega, fun base gw iv bs0 ms1 m1 mm bv gs n' cap w hw hm hB hT hbl ba ka bn bc kn kc hbn hbc hBA => ?_⟩
  exact sc18 gw t m n b h ba ka bn bc kn kc w _ (fun W hb => ((hw.bel hb).wInt64 hm hB (hT.bel hb hT.big) hbl n ⟨(Lib.itoa n).toArray⟩ (by omega) hip (fun w hT => fmtInt n hs.hn w hT)).mono fun e w' ⟨he, hr⟩ => ⟨he, by rw [List.append_assoc] at hr; exact hr.pre hb⟩)

theorem scal16 (can : Bool) (t m : ByteArray) (n b h : Int) (bs : List UInt8) (hs : SmallN 16 t m n b h bs) : Sc1 can 16 t m n b h bs := by
  obtain ⟨V, hV⟩ : ∃ V, IntKind.i32.wrap n = V := ⟨_, rfl⟩
  have hVb : -2147483648 ≤ V ∧ V ≤ 2147483647 := by rw [← hV, IntKind.wrap_i32]; omega
  have hVr : I64R V := ⟨by omega, by omega⟩
  have hit := itoa_size V hVr
  have hip : 0 < (⟨(Lib.itoa V).toArray⟩ : ByteArray).size := by have h1 := itoa_pos V; simpa [ByteArray.size] using h1
  refine ⟨numTxt can ⟨#[110, 117, 109, 98, 101, 114, 73, 110, 116]⟩ ⟨(Lib.itoa V).toArray⟩ ++ [44], ends_add _, by have := numTxt_len can ⟨#[110, 117, 109, 98, 101, 114, 73, 110, 116]⟩ ⟨(Lib.itoa V).toArray⟩ (by decide) (by omega); simp only [List.length_append, List.length_cons, List.length_nil]; omega, fun base gw iv bs0 ms1 m1 mm bv gs n' cap w hw hm hB hT hbl ba ka bn bc kn kc hbn hbc hBA => ?_⟩
  exact sc16 gw t m n b h ba ka bn bc kn kc w _ V hV (fun W hb => ((hw.bel hb).wInt32 hm hB (hT.bel hb hT.big) hbl V hVb.1 hVb.2 ⟨(Lib.itoa V).toArray⟩ (by omega) hip (fun w hT => fmtInt V hVr w hT)).mono fun e w' ⟨he, hr⟩ => ⟨he, by rw [List.append_assoc] at hr; exact hr.pre hb⟩)

theorem scal9 (can : Bool) (t m : ByteArray) (n b h : Int) (bs : List UInt8) (hs : SmallN 9 t m n b h bs) : Sc1 can 9 t m n b h bs := by
  have hit := itoa_size n hs.hn
  have hip : 0 < (⟨(Lib.itoa n).toArray⟩ : ByteArray).size := by have h1 := itoa_pos n; simpa [ByteArray.size] using h1
  refine ⟨(esv ⟨#[100, 97, 116, 101]⟩ (((⟨#[123, 34, 36, 110, 117, 109, 98, 101, 114, 76, 111, 110, 103, 34, 58, 34]⟩ : ByteArray) ++ ⟨(Lib.itoa n).toArray⟩) ++ ⟨#[34, 125]⟩) false).data.toList ++ [44], ends_add _, by have he := esv_size ⟨#[100, 97, 116, 101]⟩ (((⟨#[123, 34, 36, 110, 117, 109, 98, 101, 114, 76, 111, 110, 103, 34, 58, 34]⟩ : ByteArray) ++ ⟨(Lib.itoa n).toArray⟩) ++ ⟨#[34, 125]⟩) false; have h1 : (⟨#[100, 97, 116, 101]⟩ : ByteArray).size ≤ 20 := (by decide); have h2 : (⟨#[123, 34, 36, 110, 117, 109, 98, 101, 114, 76, 111, 110, 103, 34, 58, 34]⟩ : ByteArray).size ≤ 30 := (by decide); have h3 : (⟨#[34, 125]⟩ : ByteArray).size ≤ 2 := (by decide); simp only [ByteArray.size_append] at he; simp only [List.length_append, data_length, List.length_cons, List.length_nil]; omega, fun base gw iv bs0 ms1 m1 mm bv gs n' cap w hw hm hB hT hbl ba ka bn bc kn kc hbn hbc hBA => ?_⟩
  exact sc9 gw t m n b h ba ka bn bc kn kc w _ (fun W hb => ((hw.bel hb).wDateTime hm hB (hT.bel hb hT.big) hbl n ⟨(Lib.itoa n).toArray⟩ (by omega) (fun w hT => fmtInt n hs.hn w hT)).mono fun e w' ⟨he, hr⟩ => ⟨he, by rw [List.append_assoc] at hr; exact hr.pre hb⟩)

theorem scal13 (can : Bool) (t m : ByteArray) (n b h : Int) (bs : List UInt8) (hs : SmallN 13 t m n b h bs) : Sc1 can 13 t m n b h bs := by
  have hel := escT_length t hs.ht
  refine ⟨(esv ⟨#[99, 111, 100, 101]⟩ ⟨(escT t).toArray⟩ false).data.toList ++ [44], ends_add _, by have he := esv_size ⟨#[99, 111, 100, 101]⟩ ⟨(escT t).toArray⟩ false; have hk : (⟨#[99, 111, 100, 101]⟩ : ByteArray).size ≤ 20 := (by decide); have h3 : (⟨(escT t).toArray⟩ : ByteArray).size = (escT t).length := (by simp [ByteArray.size]); simp only [List.length_append, data_length, List.length_cons, List.length_nil]; omega, fun base gw iv bs0 ms1 m1 mm bv gs n' cap w hw hm hB hT hbl ba ka bn bc kn kc hbn hbc hBA => ?_⟩
  exact sc13 gw t m n b h ba ka bn bc kn kc w _ (fun W hb => ((hw.bel hb).wJavascript hm hB (hT.bel hb hT.big) hbl t (escT t) (by omega) (escC t (by have := hs.ht; omega))).mono fun e w' ⟨he, hr⟩ => ⟨he, by rw [List.append_assoc] at hr; exact hr.pre hb⟩)

theorem scal14 (can : Bool) (t m : ByteArray) (n b h : Int) (bs : List UInt8) (hs : SmallN 14 t m n b h bs) : Sc1 can 14 t m n b h bs := by
  have hel := escT_length t hs.ht
  refine ⟨(esv ⟨#[115, 121, 109, 98, 111, 108]⟩ ⟨(escT t).toArray⟩ false).data.toList ++ [44], ends_add _, by have he := esv_size ⟨#[115, 121, 109, 98, 111, 108]⟩ ⟨(escT t).toArray⟩ false; have hk : (⟨#[115, 121, 109, 98, 111, 108]⟩ : ByteArray).size ≤ 20 := (by decide); have h3 : (⟨(escT t).toArray⟩ : ByteArray).size = (escT t).length := (by simp [ByteArray.size]); simp only [List.length_append, data_length, List.length_cons, List.length_nil]; omega, fun base gw iv bs0 ms1 m1 mm bv gs n' cap w hw hm hB hT hbl ba ka bn bc kn kc hbn hbc hBA => ?_⟩
  exact sc14 gw t m n b h ba ka bn bc kn kc w _ (fun W hb => ((hw.bel hb).wSymbol hm hB (hT.bel hb hT.big) hbl t (escT t) (by omega) (escC t (by have := hs.ht; omega))).mono fun e w' ⟨he, hr⟩ => ⟨he, by rw [List.append_assoc] at hr; exact hr.pre hb⟩)

theorem scal8 (can : Bool) (t m : ByteArray) (n b h : Int) (bs : List UInt8) (hs : SmallN 8 t m n b h bs) : Sc1 can 8 t m n b h bs := by
  refine ⟨(⟨(Lib.formatBool (n != 0)).toArray⟩ : ByteArray).data.toList ++ [44], ends_add _, by cases (n != 0) <;> decide, fun base gw iv bs0 ms1 m1 mm bv gs n' cap w hw hm hB hT hbl ba ka bn bc kn kc hbn hbc hBA => ?_⟩
  exact sc8 gw t m n b h ba ka bn bc kn kc w _ (n != 0) rfl (fun W hb => ((hw.bel hb).wBoolean hm hB (hT.bel hb hT.big) hbl (n != 0) ⟨(Lib.formatBool (n != 0)).toArray⟩ (by cases (n != 0) <;> decide) (by cases (n != 0) <;> decide) (fun w => (Tryz.strconv_FormatBool (n != 0) w).mono fun e w2 ⟨he, hw2⟩ => ⟨he, hw2.symm⟩)).mono fun e w' ⟨he, hr⟩ => ⟨he, by rw [List.append_assoc] at hr; exact hr.pre hb⟩)

theorem hex_len : ∀ l : List UInt8, (Lib.Hx.encode l).length = 2 * l.length
  | [] => rfl
  | a :: t => by
    have := hex_len t
    simp [Lib.Hx.encode] at this ⊢
    omega
theorem idInfo (bs : List UInt8) : (Tryz.prog.info? 139).map (·.size) = some (Lib.byteCells (idL bs)).toArray.size := by
  have h : (Tryz.prog.info? 139).map (·.size) = some 12 := by kernel_rfl
  rw [h, List.size_toArray, byteCells_length, idL_length]
theorem idOne (bs : List UInt8) : (Lib.byteCells (idL bs)).toArray.all (·.oneCell') = true := all_oneCell_toArray (byteCells_oneCell _)
theorem bytesAt {w W : World} {bs : List UInt8} {ba : Option Addr} {base : Nat} (h : bs ≠ [] → ∃ g o, ba = some ⟨g, o, none⟩ ∧ g < base ∧ w.rangeAt g o (Lib.byteCells bs)) (hk : ∀ k, k < base → W.heap[k]? = w.heap[k]?) : BytesAt W bs ba := fun hne => by
  obtain ⟨g, o, h1, h2, h3⟩ := h hne
  exact ⟨g, o, h1, rangeAt_kept h3 (hk g h2)⟩

theorem scal7 (can : Bool) (t m : ByteArray) (n b h : Int) (bs : List UInt8) (hs : SmallN 7 t m n b h bs) : Sc1 can 7 t m n b h bs := by
  have hhex : (⟨(Lib.Hx.encode (idL bs)).toArray⟩ : ByteArray).size ≤ 30 := by have h1 := hex_len (idL bs); rw [idL_length] at h1; simp [ByteArray.size]; omega
  refine ⟨(esv ⟨#[111, 105, 100]⟩ ⟨(Lib.Hx.encode (idL bs)).toArray⟩ true).data.toList ++ [44], ends_add _, by have he := esv_size ⟨#[111, 105, 100]⟩ ⟨(Lib.Hx.encode (idL bs)).toArray⟩ true; have hk : (⟨#[111, 105, 100]⟩ : ByteArray).size ≤ 20 := (by decide); simp only [List.length_append, data_length, List.length_cons, List.length_nil]; omega, fun base gw iv bs0 ms1 m1 mm bv gs n' cap w hw hm hB hT hbl ba ka bn bc kn kc hbn hbc hBA => ?_⟩
  exact sc7 gw t m n b h ba ka bn bc kn kc w _ (Lib.byteCells (idL bs)).toArray (fun W hb => idC bs ba bn bc hbn W (bytesAt hBA (fun k hk => hb.block k (Nat.lt_of_lt_of_le hk hw.lt.2.2.2)))) (fun W hb => ((hw.bel hb).wObjectID hm hB (hT.bel hb hT.big) hbl (Lib.byteCells (idL bs)).toArray (idInfo bs) (idOne bs) ⟨(Lib.Hx.encode (idL bs)).toArray⟩ (by omega) (fun w hT => oidHex (idL bs) (idL_length bs) w)).mono fun e w' ⟨he, hr⟩ => ⟨he, by rw [List.append_assoc] at hr; exact hr.pre hb⟩)

theorem decOne (h b : Int) : (#[Value.int .u64 h, .int .u64 b] : Array Value).all (·.oneCell') = true := by simp [Value.oneCell']
theorem decInfo (h b : Int) : (Tryz.prog.info? 125).map (·.size) = some (#[Value.int .u64 h, .int .u64 b] : Array Value).size := by kernel_rfl

theorem scal19 (can : Bool) (t m : ByteArray) (n b h : Int) (bs : List UInt8) (hs : SmallN 19 t m n b h bs) : Sc1 can 19 t m n b h bs := by
  obtain ⟨hN, rfl⟩ : ∃ x : Nat, h = x := ⟨h.toNat, by have := hs.hh; unfold U64 at this; omega⟩
  obtain ⟨bN, rfl⟩ : ∃ x : Nat, b = x := ⟨b.toNat, by have := hs.hb; unfold U64 at this; omega⟩
  have hh := hs.hh
  have hb' := hs.hb
  unfold U64 at hh hb'
  have hds := decT_size hN bN
  refine ⟨(esv ⟨#[110, 117, 109, 98, 101, 114, 68, 101, 99, 105, 109, 97, 108]⟩ (decT hN bN) true).data.toList ++ [44], ends_add _, by have he := esv_size ⟨#[110, 117, 109, 98, 101, 114, 68, 101, 99, 105, 109, 97, 108]⟩ (decT hN bN) true; have hk : (⟨#[110, 117, 109, 98, 101, 114, 68, 101, 99, 105, 109, 97, 108]⟩ : ByteArray).size ≤ 20 := (by decide); simp only [List.length_append, data_length, List.length_cons, List.length_nil]; omega, fun base gw iv bs0 ms1 m1 mm bv gs n' cap w hw hm hB hT hbl ba ka bn bc kn kc hbn hbc hBA => ?_⟩
  exact sc19 gw t m n bN hN ba ka bn bc kn kc w _ (fun W hb => ((hw.bel hb).wDecimal128 hm hB (hT.bel hb hT.big) hbl #[.int .u64 (hN : Int), .int .u64 (bN : Int)] (decInfo _ _) (decOne _ _) (decT hN bN) (by omega) (fun w hT => dec128 hN bN (by omega) (by omega) w hT)).mono fun e w' ⟨he, hr⟩ => ⟨he, by rw [List.append_assoc] at hr; exact hr.pre hb⟩)

theorem scal11 (can : Bool) (t m : ByteArray) (n b h : Int) (bs : List UInt8) (hs : SmallN 11 t m n b h bs) : Sc1 can 11 t m n b h bs := by
  have hel := escT_length t hs.ht
  have hso : (sortT m).size ≤ 300 := Nat.le_trans (sortT_size m (hs.hl rfl)) hs.hm
  have hel2 := escT_length (sortT m) hso
  refine ⟨[] ++ (⟨#[123, 34, 36, 114, 101, 103, 117, 108, 97, 114, 69, 120, 112, 114, 101, 115, 115, 105, 111, 110, 34, 58, 123, 34, 112, 97, 116, 116, 101, 114, 110, 34, 58]⟩ : ByteArray).data.toList ++ escT t ++ (⟨#[44, 34, 111, 112, 116, 105, 111, 110, 115, 34, 58]⟩ : ByteArray).data.toList ++ escT (sortT m) ++ (⟨#[125, 125, 44]⟩ : ByteArray).data.toList, ⟨[] ++ (⟨#[123, 34, 36, 114, 101, 103, 117, 108, 97, 114, 69, 120, 112, 114, 101, 115, 115, 105, 111, 110, 34, 58, 123, 34, 112, 97, 116, 116, 101, 114, 110, 34, 58]⟩ : ByteArray).data.toList ++ escT t ++ (⟨#[44, 34, 111, 112, 116, 105, 111, 110, 115, 34, 58]⟩ : ByteArray).data.toList ++ escT (sortT m) ++ [125, 125], by simp⟩, by simp; omega, fun base gw iv bs0 ms1 m1 mm bv gs n' cap w hw hm hB hT hbl ba ka bn bc kn kc hbn hbc hBA => ?_⟩
  exact sc11 gw t m n b h ba ka bn bc kn kc w _ (fun W hb => ((hw.bel hb).wRegex hm hB (hT.bel hb hT.big) hbl t m (sortT m) (escT t) (escT (sortT m)) (by omega) (by omega) (escC t (by have := hs.ht; omega)) (escC (sortT m) (by omega)) (fun w hT => sortStr m (by have := hs.hm; omega) w) _ rfl (by simp; omega) (by simp)).mono fun e w' ⟨he, hr⟩ => ⟨he, hr.pre hb⟩)

theorem scal17 (can : Bool) (t m : ByteArray) (n b h : Int) (bs : List UInt8) (hs : SmallN 17 t m n b h bs) : Sc1 can 17 t m n b h bs := by
  obtain ⟨V, hV⟩ : ∃ V, IntKind.u32.wrap (b / 4294967296) = V := ⟨_, rfl⟩
  obtain ⟨V2, hV2⟩ : ∃ V, IntKind.u32.wrap b = V := ⟨_, rfl⟩
  have hVb : 0 ≤ V ∧ V ≤ 4294967295 := by rw [← hV, IntKind.wrap_u32]; omega
  have hVc : 0 ≤ V2 ∧ V2 ≤ 4294967295 := by rw [← hV2, IntKind.wrap_u32]; omega
  have hl1 : (Lib.decDigits V.toNat).length ≤ 20 := by rw [Lib.decDigits_length]; exact Lib.nDigits_le20 _ (by omega)
  have hl2 : (Lib.decDigits V2.toNat).length ≤ 20 := by rw [Lib.decDigits_length]; exact Lib.nDigits_le20 _ (by omega)
  refine ⟨[] ++ (⟨#[123, 34, 36, 116, 105, 109, 101, 115, 116, 97, 109, 112, 34, 58, 123, 34, 116, 34, 58]⟩ : ByteArray).data.toList ++ (⟨(Lib.decDigits V.toNat).toArray⟩ : ByteArray).data.toList ++ (⟨#[44, 34, 105, 34, 58]⟩ : ByteArray).data.toList ++ (⟨(Lib.decDigits V2.toNat).toArray⟩ : ByteArray).data.toList ++ (⟨#[125, 125, 44]⟩ : ByteArray).data.toList, ⟨[] ++ (⟨#[123, 34, 36, 116, 105, 109, 101, 115, 116, 97, 109, 112, 34, 58, 123, 34, 116, 34, 58]⟩ : ByteArray).data.toList ++ (⟨(Lib.decDigits V.toNat).toArray⟩ : ByteArray).data.toList ++ (⟨#[44, 34, 105, 34, 58]⟩ : ByteArray).data.toList ++ (⟨(Lib.decDigits V2.toNat).toArray⟩ : ByteArray).data.toList ++ [125, 125], by simp⟩, by simp; omega, fun base gw iv bs0 ms1 m1 mm bv gs n' cap w hw hm hB hT hbl ba ka bn bc kn kc hbn hbc hBA => ?_⟩
  exact sc17 gw t m n b h ba ka bn bc kn kc w _ V V2 (b / 4294967296) rfl hV hV2 (fun W hb => ((hw.bel hb).wTimestamp hm hB (hT.bel hb hT.big) hbl V V2 hVb hVc ⟨(Lib.decDigits V.toNat).toArray⟩ ⟨(Lib.decDigits V2.toNat).toArray⟩ (by simp [ByteArray.size]; omega) (by simp [ByteArray.size]; omega) (fun w hT => by have h1 := fmtUint V.toNat (by omega) w hT; rw [show ((V.toNat : Nat) : Int) = V by omega] at h1; exact h1) (fun w hT => by have h1 := fmtUint V2.toNat (by omega) w hT; rw [show ((V2.toNat : Nat) : Int) = V2 by omega] at h1; exact h1) _ rfl (by simp; omega) (by simp)).mono fun e w' ⟨he, hr⟩ => ⟨he, hr.pre hb⟩)

theorem scal12 (can : Bool) (t m : ByteArray) (n b h : Int) (bs : List UInt8) (hs : SmallN 12 t m n b h bs) : Sc1 can 12 t m n b h bs := by
  have hhex : (⟨(Lib.Hx.encode (idL bs)).toArray⟩ : ByteArray).size ≤ 30 := by have h1 := hex_len (idL bs); rw [idL_length] at h1; simp [ByteArray.size]; omega
  have hts : t.data.toList.length ≤ 300 := by rw [data_length]; exact hs.ht
  have hhx : (Lib.Hx.encode (idL bs)).length ≤ 30 := by have h1 := hex_len (idL bs); rw [idL_length] at h1; omega
  refine ⟨[] ++ (⟨#[123, 34, 36, 100, 98, 80, 111, 105, 110, 116, 101, 114, 34, 58, 123, 34, 36, 114, 101, 102, 34, 58, 34]⟩ : ByteArray).data.toList ++ t.data.toList ++ (⟨#[34, 44, 34, 36, 105, 100, 34, 58, 123, 34, 36, 111, 105, 100, 34, 58, 34]⟩ : ByteArray).data.toList ++ (⟨(Lib.Hx.encode (idL bs)).toArray⟩ : ByteArray).data.toList ++ (⟨#[34, 125, 125, 125, 44]⟩ : ByteArray).data.toList, ⟨[] ++ (⟨#[123, 34, 36, 100, 98, 80, 111, 105, 110, 116, 101, 114, 34, 58, 123, 34, 36, 114, 101, 102, 34, 58, 34]⟩ : ByteArray).data.toList ++ t.data.toList ++ (⟨#[34, 44, 34, 36, 105, 100, 34, 58, 123, 34, 36, 111, 105, 100, 34, 58, 34]⟩ : ByteArray).data.toList ++ (⟨(Lib.Hx.encode (idL bs)).toArray⟩ : ByteArray).data.toList ++ [34, 125, 125, 125], by simp⟩, by simp at hts hhx ⊢; omega, fun base gw iv bs0 ms1 m1 mm bv gs n' cap w hw hm hB hT hbl ba ka bn bc kn kc hbn hbc hBA => ?_⟩
  exact sc12 gw t m n b h ba ka bn bc kn kc w _ (Lib.byteCells (idL bs)).toArray (fun W hb => idC bs ba bn bc hbn W (bytesAt hBA (fun k hk => hb.block k (Nat.lt_of_lt_of_le hk hw.lt.2.2.2)))) (fun W hb => ((hw.bel hb).wDBPointer hm hB (hT.bel hb hT.big) hbl t (by have := hs.ht; omega) (Lib.byteCells (idL bs)).toArray (idInfo bs) (idOne bs) ⟨(Lib.Hx.encode (idL bs)).toArray⟩ (by omega) (fun w hT => oidHex (idL bs) (idL_length bs) w) _ rfl (by simp at hts hhx ⊢; omega) (by simp)).mono fun e w' ⟨he, hr⟩ => ⟨he, hr.pre hb, fun k hk1 hk2 => by obtain ⟨_, _, _, _, _, hfr⟩ := hr; exact hfr.1.block k hk2 (by have := hw.lt.1; omega) (by have := hw.lt.2.1; omega) (fun e => by have := (hw.lt.2.2.1 k e).2; omega)⟩)

theorem scal5 (can : Bool) (t m : ByteArray) (n b h : Int) (bs : List UInt8) (hs : SmallN 5 t m n b h bs) : Sc1 can 5 t m n b h bs := by
  obtain ⟨V, hV⟩ : ∃ V, IntKind.u8.wrap n = V := ⟨_, rfl⟩
  have hVb : 0 ≤ V ∧ V < 256 := by rw [← hV]; unfold IntKind.wrap; simp [IntKind.signed, IntKind.bits]; omega
  obtain ⟨H2, hH2, h2c⟩ : ∃ H2 : ByteArray, H2.size = 2 ∧ ∀ w, Calls Tryz.prog 80 #[.int .u8 V] w (Txt H2 w) := by
    obtain ⟨u, rfl⟩ : ∃ u : Nat, V = u := ⟨V.toNat, by omega⟩
    exact ⟨_, rfl, fun w => hex2 u (by omega) w⟩
  have hbl5 : (b64 bs).length ≤ 400 := by rw [b64_length]; have := hs.hbs; omega
  have hd5 : H2.data.toList.length = 2 := hH2
  refine ⟨[] ++ (⟨#[123, 34, 36, 98, 105, 110, 97, 114, 121, 34, 58, 123, 34, 98, 97, 115, 101, 54, 52, 34, 58, 34]⟩ : ByteArray).data.toList ++ (⟨(b64 bs).toArray⟩ : ByteArray).data.toList ++ (((⟨#[34, 44, 34, 115, 117, 98, 84, 121, 112, 101, 34, 58, 34]⟩ : ByteArray) ++ H2) ++ ⟨#[34, 125, 125, 44]⟩).data.toList, ⟨[] ++ (⟨#[123, 34, 36, 98, 105, 110, 97, 114, 121, 34, 58, 123, 34, 98, 97, 115, 101, 54, 52, 34, 58, 34]⟩ : ByteArray).data.toList ++ (⟨(b64 bs).toArray⟩ : ByteArray).data.toList ++ (⟨#[34, 44, 34, 115, 117, 98, 84, 121, 112, 101, 34, 58, 34]⟩ : ByteArray).data.toList ++ H2.data.toList ++ [34, 125, 125], by simp [ByteArray.data_append]⟩, by simp only [ByteArray.data_append, Array.toList_append, List.length_append] at hd5 ⊢; simp at hd5 ⊢; omega, fun base gw iv bs0 ms1 m1 mm bv gs n' cap w hw hm hB hT hbl ba ka bn bc kn kc hbn hbc hBA => ?_⟩
  exact sc5 gw t m n b h ba ka bn bc kn kc w _ V hV (fun W hb => ((hw.bel hb).wBinary hm hB (hT.bel hb hT.big) hbl V ba bn bc ⟨(b64 bs).toArray⟩ H2 (by simp [ByteArray.size]; omega) (by omega) (fun w2 hk hT2 => base64T bs (by have := hs.hbs; omega) ba bn bc hbn hbc w2 (bytesAt hBA (fun k hk2 => (hk k hk2).trans (hb.block k (Nat.lt_of_lt_of_le hk2 hw.lt.2.2.2))))) (fun w hT => h2c w) _ rfl (by simp only [ByteArray.data_append, Array.toList_append, List.length_append] at hd5 ⊢; simp at hd5 ⊢; omega) (by simp)).mono fun e w' ⟨he, hr⟩ => ⟨he, hr.pre hb⟩)

theorem scalarC (can : Bool) (K : Int) (t m : ByteArray) (n b h : Int) (bs : List UInt8) (hK : Known K) (h3 : K ≠ 3) (h4 : K ≠ 4) (h15 : K ≠ 15) (hs : SmallN K t m n b h bs) : Sc1 can K t m n b h bs := by
  rcases known_cases hK with rfl | rfl | rfl | rfl | rfl | rfl | rfl | rfl | rfl | rfl | rfl | rfl | rfl | rfl | rfl | rfl | rfl | rfl | rfl | rfl | rfl
  · exact scal1 can t m n b h bs hs
  · exact scal2 can t m n b h bs hs
  · exact absurd rfl h3
  · exact absurd rfl h4
  · exact scal5 can t m n b h bs hs
  · exact scal6 can t m n b h bs hs
  · exact scal7 can t m n b h bs hs
  · exact scal8 can t m n b h bs hs
  · exact scal9 can t m n b h bs hs
  · exact scal10 can t m n b h bs hs
  · exact scal11 can t m n b h bs hs
  · exact scal12 can t m n b h bs hs
  · exact scal13 can t m n b h bs hs
  · exact scal14 can t m n b h bs hs
  · exact absurd rfl h15
  · exact scal16 can t m n b h bs hs
  · exact scal17 can t m n b h bs hs
  · exact scal18 can t m n b h bs hs
  · exact scal19 can t m n b h bs hs
  · exact scal255 can t m n b h bs hs
  · exact scal127 can t m n b h bs hs

end Go.Proofs.YtpkfdbhpmhahaaaGreatDoor
