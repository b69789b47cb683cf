/- A decimal's text: the method. -/
import Derived.Test.YtpkfdbhpmhahaaaGreatDoorLfn
namespace Go.Proofs.YtpkfdbhpmhahaaaGreatDoor
open Go Go.RowKit Go.Lib
set_option linter.unusedSimpArgs false
set_option linter.unusedVariables false

theorem DS.point_le (S : DS) : S.point.row.length = S.row.length ∧ S.exp ≤ S.point.exp ∧ S.point.exp ≤ S.exp + 48 := by
  unfold DS.point
  split
  · rename_i h
    have h1 := h.1
    refine ⟨by simp, ?_, ?_⟩ <;> (simp only; omega)
  · refine ⟨rfl, ?_, ?_⟩ <;> omega
theorem DS.after_le (S : DS) (c : Nat) : (S.after c).1.row.length = S.row.length ∧ (S.after c).1.exp = S.exp := by
  unfold DS.after
  split
  · exact ⟨rfl, rfl⟩
  · simp only
    split <;> exact ⟨rfl, rfl⟩
theorem DS.round_le (S : DS) : S.round.1.row.length = S.row.length ∧ S.exp ≤ S.round.1.exp ∧ S.round.1.exp ≤ S.exp + 48 := by
  obtain ⟨h1, h2, h3⟩ := S.point_le
  obtain ⟨h4, h5⟩ := S.point.digit.after_le (S.point.rem % 10)
  have e1 : S.point.digit.row.length = S.point.row.length := by simp [DS.digit]
  have e2 : S.point.digit.exp = S.point.exp := rfl
  unfold DS.round
  refine ⟨by rw [h4, e1, h1], ?_, ?_⟩ <;> (rw [h5, e2]; assumption)
theorem DS.inner_le : ∀ (n : Nat) (S : DS), (S.inner n).1.row.length = S.row.length ∧ S.exp ≤ (S.inner n).1.exp ∧ (S.inner n).1.exp ≤ S.exp + 48 * n
  | 0, S => ⟨rfl, Int.le_refl _, by show S.exp ≤ _; omega⟩
  | n + 1, S => by
    have h := S.round_le
    have e : S.inner (n + 1) = if S.round.2 then S.round else DS.inner n S.round.1 := by rw [DS.inner]
    have h2 := DS.inner_le n S.round.1
    rw [e]
    generalize S.round = q at h h2 ⊢
    split
    · exact ⟨h.1, h.2.1, by omega⟩
    · exact ⟨h2.1.trans h.1, by omega, by omega⟩
theorem DS.outer_succ (n : Nat) (S : DS) : S.outer (n + 1) = if (DS.inner 9 S.div).2 then (DS.inner 9 S.div).1 else DS.outer n (DS.inner 9 S.div).1 := by rw [DS.outer]
theorem DS.outer_k (k : Nat) (hk : k = 9) (n : Nat) (S : DS) : S.outer (n + 1) = if (DS.inner k S.div).2 then (DS.inner k S.div).1 else DS.outer n (DS.inner k S.div).1 := by
  subst hk
  exact DS.outer_succ n S
theorem DS.div_same (S : DS) : S.div.row = S.row ∧ S.div.exp = S.exp := by
  unfold DS.div
  generalize dmQ S.hi S.lo = q
  exact ⟨rfl, rfl⟩
theorem inner_any (k : Nat) (hk : k = 9) (S D : DS) (hD : D.row = S.row ∧ D.exp = S.exp) : (DS.inner k D).1.row.length = S.row.length ∧ S.exp ≤ (DS.inner k D).1.exp ∧ (DS.inner k D).1.exp ≤ S.exp + 432 := by
  have h := DS.inner_le k D
  obtain ⟨h1, h2⟩ := hD
  generalize DS.inner k D = q at h ⊢
  obtain ⟨a, b, c⟩ := h
  exact ⟨a.trans (by rw [h1]), by omega, by omega⟩
theorem ite_le (S : DS) (q : DS × Bool) (X : DS) (n : Nat) (h : q.1.row.length = S.row.length ∧ S.exp ≤ q.1.exp ∧ q.1.exp ≤ S.exp + 432) (h2 : X.row.length = q.1.row.length ∧ q.1.exp ≤ X.exp ∧ X.exp ≤ q.1.exp + 432 * n) :
    (if q.2 then q.1 else X).row.length = S.row.length ∧ S.exp ≤ (if q.2 then q.1 else X).exp ∧ (if q.2 then q.1 else X).exp ≤ S.exp + 432 * ((n + 1 : Nat) : Int) := by
  split
  · exact ⟨h.1, h.2.1, by omega⟩
  · exact ⟨h2.1.trans h.1, by omega, by omega⟩
theorem outer_le_step (k : Nat) (hk : k = 9) (n : Nat) (ih : ∀ (S : DS), (S.outer n).row.length = S.row.length ∧ S.exp ≤ (S.outer n).exp ∧ (S.outer n).exp ≤ S.exp + 432 * n) (S Y : DS) (hY : Y = if (DS.inner k S.div).2 then (DS.inner k S.div).1 else DS.outer n (DS.inner k S.div).1) :
    Y.row.length = S.row.length ∧ S.exp ≤ Y.exp ∧ Y.exp ≤ S.exp + 432 * ((n + 1 : Nat) : Int) := by
  have h := inner_any k hk S S.div S.div_same
  have h2 := ih (DS.inner k S.div).1
  rw [hY]
  generalize DS.inner k S.div = q at h h2 ⊢
  exact ite_le S q _ n h h2
theorem DS.outer_le (k : Nat) (hk : k = 9) (n : Nat) : ∀ (S : DS), (S.outer n).row.length = S.row.length ∧ S.exp ≤ (S.outer n).exp ∧ (S.outer n).exp ≤ S.exp + 432 * n := by
  induction n with
  | zero =>
    intro S
    have e : S.outer 0 = S := by rw [DS.outer]
    rw [e]
    exact ⟨rfl, Int.le_refl _, by omega⟩
  | succ n ih =>
    intro S
    exact outer_le_step k hk n ih S _ (DS.outer_k k hk n S)
theorem dEnd_size (pos : Nat) (S : DS) (h1 : S.row.length = 48) (h2 : -100000 ≤ S.exp ∧ S.exp ≤ 100000) : (dEnd pos S).length ≤ 75 := by
  have h3 : (itoa S.exp).length ≤ 21 := itoa_size S.exp ⟨by omega, by omega⟩
  have h4 : ((S.row.set (S.last - 1) 45).drop (S.last - 1 + pos)).length ≤ 48 := by rw [List.length_drop, List.length_set]; omega
  unfold dEnd
  rw [List.length_append]
  split
  · simp only [List.length_append, List.length_cons, List.length_nil]; omega
  · split
    · simp only [List.length_append, List.length_cons, List.length_nil]; omega
    · simp only [List.length_nil]; omega
theorem decT_size (h l : Nat) : (decT h l).size ≤ 100 := by
  unfold decT
  split
  · decide
  · split
    · split <;> decide
    · split
      · split <;> decide
      · obtain ⟨h1, h2, h3⟩ := DS.outer_le 9 rfl 5 (dStart h l)
        have h4 : (dStart h l).row.length = 48 ∧ -6176 ≤ (dStart h l).exp ∧ (dStart h l).exp ≤ 20000 := by
          unfold dStart
          split
          · exact ⟨rfl, by simp only; omega, by simp only; omega⟩
          · exact ⟨rfl, by simp only; omega, by simp only; omega⟩
        generalize DS.outer 5 (dStart h l) = G at h1 h2 h3 ⊢
        exact Nat.le_trans (dEnd_size _ G (h1.trans h4.1) ⟨by omega, by omega⟩) (by decide)

/-- A decimal: two words in a struct. -/
theorem dec128 (h l : Nat) (hh : h < 18446744073709551616) (hl : l < 18446744073709551616) (w : World) (hT : Tabs w) : Calls Tryz.prog 86 #[.agg #[.int .u64 (h : Nat), .int .u64 (l : Nat)]] w (Txt (decT h l) w) := by
  obtain ⟨T, hTT⟩ : ∃ x, x = decT h l := ⟨_, rfl⟩
  have hn := heap_alloc_new w (.cells #[.int .u64 (h : Nat), .int .u64 (l : Nat)] 125)
  have hc0 : (w.alloc (.cells #[.int .u64 (h : Nat), .int .u64 (l : Nat)] 125)).cell? ⟨w.heap.size, 0, none⟩ = some (.int .u64 (h : Nat)) := by simp only [World.cell?, hn]; rfl
  have hc1 : (w.alloc (.cells #[.int .u64 (h : Nat), .int .u64 (l : Nat)] 125)).cell? ⟨w.heap.size, 1, none⟩ = some (.int .u64 (l : Nat)) := by simp only [World.cell?, hn]; rfl
  have hb := (Below.refl w.heap.size w).alloc (Nat.le_refl _) (.cells #[.int .u64 (h : Nat), .int .u64 (l : Nat)] 125)
  have hc := decStr h l hh hl (w.alloc (.cells #[.int .u64 (h : Nat), .int .u64 (l : Nat)] 125)) (hT.bel hb hT.big)
  rw [← hTT] at hc ⊢
  have HC := Lib.hid hc
  have HB := Lib.hid hb
  clear hTT hc hb hn hT hh hl
  go_enter Tryz.func86, Tryz.ntmps86
  go_wp2_with (first | (go_at_call 101; refine (HC.out).mono ?_; rintro e w1 ⟨rfl, hb1⟩; have HB1 := Lib.hid (HB.out.trans (hb1.mono HB.out.size)); clear hb1))
  go_ret
  exact ⟨rfl, HB1.out⟩

end Go.Proofs.YtpkfdbhpmhahaaaGreatDoor
