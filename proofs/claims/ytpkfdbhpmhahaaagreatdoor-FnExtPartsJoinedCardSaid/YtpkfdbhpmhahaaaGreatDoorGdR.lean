/- extRune of the reference, by its contract. -/
import Derived.Test.YtpkfdbhpmhahaaaGreatDoorGa
namespace Go.Proofs.YtpkfdbhpmhahaaaGreatDoor
open Go Go.RowKit
set_option linter.unusedSimpArgs false
set_option linter.unusedVariables false

/-- How many bytes a character has: none behind the first is below 128. -/
def RuneN (s : ByteArray) (n : Int) : Prop := n = 0 ∨ ∃ k : Nat, n = k ∧ 1 ≤ k ∧ k ≤ s.size ∧ ∀ j (hj : j < s.size), 1 ≤ j → j < k → 128 ≤ (s[j]'hj).toNat
def RunePost (s : ByteArray) (w : World) (e : Ending) (w' : World) : Prop := ∃ n c : Int, RuneN s n ∧ e = .returned (.tuple #[.int .i64 n, .int .i64 c]) ∧ w = w'

def RunR (s : ByteArray) (N : Nat) (m : Nat) (v4 v7 : Value) : Prop := ∃ (i : Nat) (c : Int), m = N - i ∧ 1 ≤ i ∧ i ≤ N ∧ v4 = .int .i64 c ∧ v7 = .int .i64 i ∧ ∀ j (hj : j < s.size), 1 ≤ j → j < i → 128 ≤ (s[j]'hj).toNat

theorem rune_no (s : ByteArray) (w : World) : RunePost s w (.returned (.tuple #[.int .i64 0, .int .i64 0])) w := ⟨0, 0, .inl rfl, rfl, rfl⟩
theorem rune_yes {s : ByteArray} {N : Nat} (w : World) (c : Int) (h1 : 1 ≤ N) (h2 : N ≤ s.size) (h : ∀ j (hj : j < s.size), 1 ≤ j → j < N → 128 ≤ (s[j]'hj).toNat) : RunePost s w (.returned (.tuple #[.int .i64 N, .int .i64 c])) w := ⟨N, c, .inr ⟨N, rfl, h1, h2, h⟩, rfl, rfl⟩

def RuneC (v4 v5 v6 : Value) : Prop := ∃ (n : Nat) (c l : Int), (n = 0 ∨ 2 ≤ n ∧ n ≤ 4) ∧ v4 = .int .i64 c ∧ v5 = .int .i64 n ∧ v6 = .int .i64 l
theorem rune_c0 (c l : Int) : RuneC (.int .i64 c) (.int .i64 0) (.int .i64 l) := ⟨0, c, l, .inl rfl, rfl, rfl, rfl⟩
theorem rune_c2 (c l : Int) : RuneC (.int .i64 c) (.int .i64 2) (.int .i64 l) := ⟨2, c, l, .inr (by omega), rfl, rfl, rfl⟩
theorem rune_c3 (c l : Int) : RuneC (.int .i64 c) (.int .i64 3) (.int .i64 l) := ⟨3, c, l, .inr (by omega), rfl, rfl, rfl⟩
theorem rune_c4 (c l : Int) : RuneC (.int .i64 c) (.int .i64 4) (.int .i64 l) := ⟨4, c, l, .inr (by omega), rfl, rfl, rfl⟩

set_option maxRecDepth 100000 in
set_option maxHeartbeats 4000000 in
theorem rune (s : ByteArray) (hn : 0 < s.size) (hl : s.size ≤ 1000000) (w : World) : Calls Tryz.prog 28 #[.string s] w (RunePost s w) := by
  have hse := not_empty hn
  have hsn := not_nil' hn
  obtain ⟨c0, hc0⟩ : ∃ c0, s[0]'hn = c0 := ⟨_, rfl⟩
  have h256 : (c0.toNat : Int) < 256 := by have := c0.toNat_lt; omega
  by_cases h128 : (c0.toNat : Int) < 128
  · as_aux_lemma =>
    go_enter Tryz.func28, Tryz.ntmps28
    go_wp2
    go_ret2
    exact ⟨1, _, .inr ⟨1, rfl, Nat.le_refl _, hn, fun j hj h1 h2 => absurd h2 (by omega)⟩, rfl, rfl⟩
  · go_enter Tryz.func28, Tryz.ntmps28
    go_upto_block 0 with fail
    clear hse hsn hc0
    go_cut [4, 5, 6] (fun v4 v5 v6 wx => Aside (RuneC v4 v5 v6) ∧ w = wx)
    case first =>
      as_aux_lemma =>
      by_cases h1 : (c0.toNat : Int) < 194
      · go_wp2
        go_meet
        exact ⟨rune_c0 _ _, rfl⟩
      have g1 : (194 : Int) ≤ c0.toNat := by omega
      clear h1
      by_cases h2 : (c0.toNat : Int) < 224
      · go_wp2
        go_meet
        exact ⟨rune_c2 _ _, rfl⟩
      have g2 : (224 : Int) ≤ c0.toNat := by omega
      clear h2 g1
      by_cases h3 : (c0.toNat : Int) < 240
      · go_wp2
        go_meet
        exact ⟨rune_c3 _ _, rfl⟩
      have g3 : (240 : Int) ≤ c0.toNat := by omega
      clear h3 g2
      by_cases h4 : (c0.toNat : Int) < 245
      · go_wp2
        go_meet
        exact ⟨rune_c4 _ _, rfl⟩
      have g4 : (245 : Int) ≤ c0.toNat := by omega
      clear h4 g3 h128
      go_wp2
      go_meet
      exact ⟨rune_c0 _ _, rfl⟩
    case rest =>
      as_aux_lemma =>
      obtain ⟨hR, rfl⟩ := hcut
      obtain ⟨n, c, l, hN, rfl, rfl, rfl⟩ := hR.out
      clear hR
      by_cases hz : n = 0
      · subst hz
        clear hN
        go_wp2
        go_ret2
        exact rune_no s w
      · have n0 : ((n : Int) == 0) = false := by simp only [beq_eq_false_iff_ne, ne_eq]; omega
        have hN2 : 2 ≤ n ∧ n ≤ 4 := by omega
        obtain ⟨ha, hb⟩ := hN2
        clear hN hz
        by_cases hs : s.size < n
        · have hd : decide (s.size < n) = true := decide_eq_true hs
          go_wp2
          go_ret2
          exact rune_no s w
        · have hd : decide (s.size < n) = false := decide_eq_false hs
          go_wp2
          clear n0 hd
          go_loopg [4, 7] (n - 1) (fun m v4 v7 wx => Aside (RunR s n m v4 v7) ∧ w = wx)
          case atStart => exact ⟨⟨1, c, rfl, by omega, by omega, rfl, rfl, fun j hj h1 h2 => absurd h2 (by omega)⟩, rfl⟩
          case round =>
            obtain ⟨hr, rfl⟩ := hrel
            obtain ⟨i, c2, rfl, h1, h2, rfl, rfl, hall⟩ := hr.out
            clear hr
            have HA := Lib.hid hall
            clear hall
            by_cases hi : i < n
            · have his : i < s.size := by omega
              obtain ⟨x, hx⟩ : ∃ x, s[i]'his = x := ⟨_, rfl⟩
              have hx256 : (x.toNat : Int) < 256 := by have := x.toNat_lt; omega
              by_cases h6 : x.toNat / 64 = 2
              · have HX : Hid (∀ j (hj : j < s.size), 1 ≤ j → j < i + 1 → 128 ≤ (s[j]'hj).toNat) := Lib.hid (by
                  intro j hj hj1 hj2
                  by_cases hji : j = i
                  · subst hji
                    rw [hx]
                    omega
                  · exact HA.out j hj hj1 (by omega))
                have hq : ((x.toNat : Int) / 64 != 2) = false := by simp only [bne_eq_false_iff_eq]; omega
                clear h6
                as_aux_lemma =>
                go_wp2
                go_roundg (n - (i + 1))
                case measure => omega
                case rel => exact ⟨⟨i + 1, _, rfl, by omega, by omega, rfl, rfl, HX.out⟩, rfl⟩
              · have hq : ((x.toNat : Int) / 64 != 2) = true := by simp only [bne_iff_ne, ne_eq]; omega
                clear h6
                as_aux_lemma =>
                go_wp2
                go_ret2
                exact rune_no s w
            · obtain rfl : i = n := by omega
              as_aux_lemma =>
              go_wp2
              all_goals go_ret2
              all_goals first | exact rune_no s w | exact rune_yes w _ (by omega) (by omega) HA.out



end Go.Proofs.YtpkfdbhpmhahaaaGreatDoor
