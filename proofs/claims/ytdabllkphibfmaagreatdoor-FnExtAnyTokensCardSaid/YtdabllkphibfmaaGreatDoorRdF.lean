/- ExtNumber's inner function: it passes over digits; the reference's number in memory. -/
import Derived.Test.YtdabllkphibfmaaGreatDoorRdE
namespace Go.Proofs.YtdabllkphibfmaaGreatDoor
open Go Go.RowKit
set_option linter.unusedSimpArgs false
set_option linter.unusedVariables false

def zeroVal : Array Value := #[.int .i64 0, .string ⟨#[]⟩, .string ⟨#[]⟩, .int .i64 0, .int .u64 0, .int .u64 0, .slice none 0 0, .slice none 0 0]

/-- The text, the result, the place, in three blocks from B on. -/
structure NumW (B : Nat) (s : ByteArray) (w : World) (i : Nat) (wx : World) : Prop where
  s0 : wx.heap[B]? = some (.cells #[.string s] 9 (0, 0))
  r0 : wx.heap[B + 1]? = some (.cells zeroVal 82 (0, 0))
  i0 : wx.heap[B + 1 + 1]? = some (.cells #[.int .i64 (i : Nat)] 3 (0, 0))
  bl : Below B w wx
  le : i ≤ s.size

theorem cell1 {w : World} {r : Nat} {x : Value} {T : TypeId} (h : w.heap[r]? = some (.cells #[x] T (0, 0))) : w.cell? ⟨r, 0, none⟩ = some x ∧ (∀ o, w.frozen? ⟨r, o, none⟩ = false) :=
  ⟨by simp [World.cell?, h], fun o => by simp [World.frozen?, h]⟩

theorem NumW.go {B : Nat} {s : ByteArray} {w : World} {i : Nat} {wx : World} (h : NumW B s w i wx) (j : Nat) (hj : j ≤ s.size) : NumW B s w j (wx.setCell ⟨B + 1 + 1, 0, none⟩ (.int .i64 (j : Nat))) := by
  refine ⟨(heap_set_ne (by omega)).trans h.s0, (heap_set_ne (by omega)).trans h.r0, ?_, h.bl.setCell (by show B ≤ B + 1 + 1; omega) _, hj⟩
  rw [heap_set h.i0]
  rfl

theorem NumW.cells {B : Nat} {s : ByteArray} {w : World} {i : Nat} {wx : World} (h : NumW B s w i wx) : wx.cell? ⟨B, 0, none⟩ = some (.string s) ∧ wx.cell? ⟨B + 1 + 1, 0, none⟩ = some (.int .i64 (i : Nat)) ∧ wx.frozen? ⟨B + 1 + 1, 0, none⟩ = false :=
  ⟨(cell1 h.s0).1, (cell1 h.i0).1, (cell1 h.i0).2 0⟩

theorem dropDig_end {l : List UInt8} (h : l.dropWhile isDig = []) : ∀ c ∈ l, isDig c = true := by
  induction l with
  | nil => intro c hc; cases hc
  | cons x l ih =>
    rw [List.dropWhile_cons] at h
    split at h
    · intro c hc
      rcases List.mem_cons.1 hc with rfl | hc
      · assumption
      · exact ih h c hc
    · cases h

/-- How digits are passed over. -/
def DigPost (B : Nat) (s : ByteArray) (w : World) (i : Nat) (e : Ending) (w' : World) : Prop :=
  ∃ j : Nat, i ≤ j ∧ s.data.toList.drop j = (s.data.toList.drop i).dropWhile isDig ∧ (∀ k (hk : k < s.size), i ≤ k → k < j → isDig (s[k]'hk) = true) ∧ e = .returned (.int .i64 ((j : Int) - i)) ∧ NumW B s w j w'

def DigR (B : Nat) (s : ByteArray) (w : World) (i : Nat) (m : Nat) (wx : World) : Prop :=
  ∃ j : Nat, m = s.size - j ∧ i ≤ j ∧ (s.data.toList.drop j).dropWhile isDig = (s.data.toList.drop i).dropWhile isDig ∧ (∀ k (hk : k < s.size), i ≤ k → k < j → isDig (s[k]'hk) = true) ∧ NumW B s w j wx

set_option maxRecDepth 100000 in
set_option maxHeartbeats 4000000 in
theorem digits (B : Nat) (s : ByteArray) (w : World) (i : Nat) (W : World) (h : NumW B s w i W) (hl : s.size ≤ 1000000) :
    Calls Tryz.prog 45 #[.pointer (some ⟨B + 1 + 1, 0, none⟩), .pointer (some ⟨B, 0, none⟩)] W (DigPost B s w i) := by
  obtain ⟨c0, c1, c2⟩ := h.cells
  have hi := h.le
  have H := Lib.hid h
  clear h
  go_enter Tryz.func45, Tryz.ntmps45
  go_wp2
  clear c0 c1 c2
  go_loopg [] (s.size - i) (fun m wx => Aside (DigR B s w i m wx))
  case atStart => exact ⟨i, rfl, Nat.le_refl _, rfl, fun k hk h1 h2 => absurd h1 (by omega), H.out⟩
  case round =>
    obtain ⟨j, rfl, hij, hd, hall, hN⟩ := hrel.out
    clear hrel
    obtain ⟨c0, c1, c2⟩ := hN.cells
    have hj := hN.le
    have HN := Lib.hid hN
    have HD := Lib.hid hd
    have HA := Lib.hid hall
    clear hN hd hall
    by_cases hlt : j < s.size
    · have hdrop := str_drop s j hlt
      obtain ⟨c, hc⟩ : ∃ c, s[j]'hlt = c := ⟨_, rfl⟩
      rw [hc] at hdrop
      cases hdg : isDig c with
      | true =>
        have hd1 : (48 : Int) ≤ c.toNat := by have := dig_t hdg; omega
        have hd2 : (c.toNat : Int) ≤ 57 := by have := dig_t hdg; omega
        have HX : Hid ((s.data.toList.drop (j + 1)).dropWhile isDig = (s.data.toList.drop i).dropWhile isDig) := Lib.hid (by
          rw [← HD.out, hdrop, List.dropWhile_cons, if_pos hdg])
        have HA2 : Hid (∀ k (hk : k < s.size), i ≤ k → k < j + 1 → isDig (s[k]'hk) = true) := Lib.hid (by
          intro k hk h1 h2
          by_cases hkj : k = j
          · subst hkj
            rw [hc]
            exact hdg
          · exact HA.out k hk h1 (by omega))
        clear hdrop hdg
        as_aux_lemma =>
        go_wp2
        go_roundg (s.size - (j + 1))
        case measure => omega
        case rel => exact ⟨j + 1, rfl, by omega, HX.out, HA2.out, HN.out.go (j + 1) (by omega)⟩
      | false =>
        have hdf := dig_f hdg
        have HX : Hid (s.data.toList.drop j = (s.data.toList.drop i).dropWhile isDig) := Lib.hid (by
          rw [← HD.out, hdrop, List.dropWhile_cons, if_neg (by simp [hdg])])
        clear hdrop hdg
        by_cases hd1 : 48 ≤ c.toNat
        · as_aux_lemma =>
            have hda : (48 : Int) ≤ c.toNat := by omega
            have hdb : ¬ (c.toNat : Int) ≤ 57 := by omega
            clear hd1 hdf
            go_wp2
            go_ret
            exact ⟨j, hij, HX.out, HA.out, rfl, HN.out⟩
        · as_aux_lemma =>
            have hda : ¬ (48 : Int) ≤ c.toNat := by omega
            clear hd1 hdf
            go_wp2
            go_ret
            exact ⟨j, hij, HX.out, HA.out, rfl, HN.out⟩
    · obtain rfl : j = s.size := by omega
      as_aux_lemma =>
      have HX : Hid (s.data.toList.drop s.size = (s.data.toList.drop i).dropWhile isDig) := Lib.hid (by
        rw [← HD.out, drop_end]
        rfl)
      go_wp2
      go_ret
      exact ⟨s.size, hij, HX.out, HA.out, rfl, HN.out⟩

end Go.Proofs.YtdabllkphibfmaaGreatDoor
