/- Tokens of any text, one behind the other: plain. -/
import Derived.Test.YtdabllkphibfmaaGreatDoorAnyP
namespace Go.Proofs.YtdabllkphibfmaaGreatDoor
open Go Go.RowKit
set_option linter.unusedSimpArgs false
set_option linter.unusedVariables false

/-- The tokens of a text of n bytes, of which l is left; with their places; false: something is none. -/
inductive TokR (num lit : UInt8 → List UInt8 → SubEnd) (n : Nat) : List UInt8 → List (Nat × TV × Nat) → Bool → Prop
  | nil {l : List UInt8} (h : l.dropWhile isBlank = []) : TokR num lit n l [] true
  | err {l : List UInt8} {c : UInt8} {r : List UInt8} (h : l.dropWhile isBlank = c :: r) (ht : tokAt num lit c r = .err) : TokR num lit n l [] false
  | tok {l : List UInt8} {c : UInt8} {r : List UInt8} {k : Nat} {v : TV} {r' : List UInt8} {ts : List (Nat × TV × Nat)} {ok : Bool} (h : l.dropWhile isBlank = c :: r) (ht : tokAt num lit c r = .tok k v r') (hr : TokR num lit n r' ts ok) : TokR num lit n l ((k, v, n - (r.length + 1)) :: ts) ok

def place512 (x : Nat × TV × Nat) : Nat × TV × Nat := (x.1, x.2.1, x.2.2 % 512)

theorem TokR.toks {num lit : UInt8 → List UInt8 → SubEnd} {n : Nat} {l : List UInt8} {ts : List (Nat × TV × Nat)} {ok : Bool} (h : TokR num lit n l ts ok) : toks num lit n (ts.length + 1) l = some (ts.map place512, ok) := by
  induction h with
  | nil h => simp only [YtdabllkphibfmaaGreatDoor.toks, h]; rfl
  | err h ht => simp only [YtdabllkphibfmaaGreatDoor.toks, h, ht]; rfl
  | tok h ht hr ih =>
    rw [YtdabllkphibfmaaGreatDoor.toks]
    simp only [h, ht]
    rw [List.length_cons, ih]
    rfl

/-- What a token bears is in its range. -/
def TVin : TV → Prop
  | .i32 v => -2147483648 ≤ v ∧ v < 2147483648
  | .i64 v => -9223372036854775808 ≤ v ∧ v < 9223372036854775808
  | _ => True

def SubIn (r : List UInt8) : SubEnd → Prop
  | .tok k v r' => k < 12 ∧ TVin v ∧ r'.length ≤ r.length
  | _ => True

theorem exTV_in {pf : PF} {txt : List UInt8} {v : TV} (h : exTV pf txt = some v) : TVin v ∧ kindOf v < 12 := by
  unfold exTV at h
  split at h
  · cases h
  · split at h
    · rename_i v' hv
      have hb : -9223372036854775808 ≤ v' ∧ v' < 9223372036854775808 := by
        split at hv
        · have hnum : Lib.parseIntB 64 txt = .ok v' := by
            cases hq : Lib.parseIntB 64 txt with
            | ok x => rw [hq] at hv; exact congrArg _ (Option.some.inj hv)
            | _ => rw [hq] at hv; cases hv
          unfold Lib.parseIntB at hnum
          split at hnum
          · cases hnum
          · simp only at hnum
            split at hnum
            · cases hnum
            · cases hnum
            · split at hnum
              · cases hnum
              · split at hnum
                · cases hnum
                · injection hnum with hnum
                  subst hnum
                  simp at *
                  split <;> omega
        · cases hv
      split at h
      · injection h with h; subst h; exact ⟨hb, show 7 < 12 by decide⟩
      · injection h with h; subst h; exact ⟨by simp only [TVin]; omega, show 6 < 12 by decide⟩
    · split at h
      · injection h with h; subst h; exact ⟨trivial, show 8 < 12 by decide⟩
      · cases h

theorem wordX_in {w : List UInt8} {k : Nat} {v : TV} {l r : List UInt8} (hk : k < 12) (hv : TVin v) (hl : ∀ x, preW w l = some x → x.length ≤ r.length) : SubIn r (wordX w k v l) := by
  unfold wordX
  cases h : preW w l with
  | none => trivial
  | some x =>
    have := hl x h
    simp only
    unfold wordEnd
    split
    · exact ⟨hk, hv, by simp⟩
    · split
      · exact ⟨hk, hv, this⟩
      · trivial

theorem preW_len : ∀ (w l x : List UInt8), preW w l = some x → x.length + w.length = l.length
  | [], l, x, h => by injection h with h; subst h; simp
  | _ :: _, [], _, h => by cases h
  | a :: w, c :: l, x, h => by
    simp only [preW] at h
    split at h
    · have := preW_len w l x h; simp; omega
    · cases h

theorem strRun_len : ∀ (f : Nat) (acc l s r : List UInt8), strRun f acc l = .ok s r → r.length ≤ l.length
  | 0, _, _, _, _, h => by cases h
  | f + 1, acc, l, s, r, h => by
    simp only [strRun] at h
    cases hs : strStep l with
    | err => rw [hs] at h; cases h
    | out => rw [hs] at h; cases h
    | done r' =>
      rw [hs] at h
      injection h with _ h
      subst h
      unfold strStep at hs
      split at hs
      · cases hs
      · split at hs
        · injection hs with hs; subst hs; simp
        · split at hs
          · split at hs
            · cases hs
            · split at hs
              · exact absurd hs strU_done
              · split at hs <;> cases hs
          · cases hs
    | more x r' =>
      rw [hs] at h
      have h1 := strStep_more hs
      have h2 := strRun_len f _ _ _ _ h
      omega

theorem tokAt_in (pf : PF) (hp : ∀ txt, exNum txt ≠ none → txt.length ≤ 1000000 → pf txt ≠ none) (c : UInt8) (r : List UInt8) (hlr : r.length < 1000000) : SubIn r (tokAt (numSub pf) litRun c r) := by
  have pn : ∀ k b, k < 12 → SubIn r (.tok k (.byte b) r) := fun k b h => ⟨h, trivial, Nat.le_refl _⟩
  unfold tokAt
  split
  · exact pn _ _ (by decide)
  split
  · exact pn _ _ (by decide)
  split
  · exact pn _ _ (by decide)
  split
  · exact pn _ _ (by decide)
  split
  · exact pn _ _ (by decide)
  split
  · exact pn _ _ (by decide)
  split
  · unfold strSub
    cases h : strRun (r.length + 1) [] r with
    | err => trivial
    | out => trivial
    | ok s r' => exact ⟨by decide, trivial, strRun_len _ _ _ _ _ h⟩
  split
  · rename_i hc
    rw [numSub_ex pf c (hc.imp_right fun h => decide_eq_true h) r hlr hp]
    cases h : exTV pf (c :: r.takeWhile stopB) with
    | none => trivial
    | some v =>
      have := exTV_in h
      exact ⟨this.2, this.1, by
        have := congrArg List.length (List.takeWhile_append_dropWhile (p := stopB) (l := r))
        rw [List.length_append] at this
        omega⟩
  split
  · rename_i h
    have hl : ∀ w x, w ≠ [] → preW w (c :: r) = some x → x.length ≤ r.length := fun w x hw hx => by
      have := preW_len w (c :: r) x hx
      cases w with
      | nil => exact absurd rfl hw
      | cons a w => simp at this; omega
    rcases h with rfl | rfl | rfl
    · rw [lit_t]; exact wordX_in (by decide) trivial (fun x hx => hl _ x (by decide) hx)
    · rw [lit_f]; exact wordX_in (by decide) trivial (fun x hx => hl _ x (by decide) hx)
    · rw [lit_n]; exact wordX_in (by decide) trivial (fun x hx => hl _ x (by decide) hx)
  · trivial

theorem dropB_len (l : List UInt8) : (l.dropWhile isBlank).length ≤ l.length := (List.dropWhile_sublist _).length_le

theorem TokR.inn {pf : PF} (hp : ∀ txt, exNum txt ≠ none → txt.length ≤ 1000000 → pf txt ≠ none) {n : Nat} {l : List UInt8} {ts : List (Nat × TV × Nat)} {ok : Bool} (h : TokR (numSub pf) litRun n l ts ok) (hn : l.length ≤ n) (h0 : 0 < n) (hm : n ≤ 1000000) : ts.length ≤ l.length ∧ ∀ x ∈ ts, x.1 < 12 ∧ TVin x.2.1 ∧ x.2.2 < n := by
  induction h with
  | nil h => exact ⟨by simp, fun x hx => by cases hx⟩
  | err h ht => exact ⟨by simp, fun x hx => by cases hx⟩
  | @tok l c r k v r' ts ok h ht hr ih =>
    have h5 := dropB_len l
    rw [h] at h5
    simp only [List.length_cons] at h5
    have h1 := tokAt_in pf hp c r (by omega)
    rw [ht] at h1
    obtain ⟨h2, h3, h4⟩ := h1
    obtain ⟨h6, h7⟩ := ih (by omega)
    refine ⟨by simp; omega, fun x hx => ?_⟩
    rcases List.mem_cons.1 hx with rfl | hx
    · exact ⟨h2, h3, by simp only; omega⟩
    · exact h7 x hx

end Go.Proofs.YtdabllkphibfmaaGreatDoor
