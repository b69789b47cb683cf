/- FnExtStrings, walked. -/
import Derived.Test.YtdabllkphibfmaaGreatDoorExt
import Derived.Test.YtdabllkphibfmaaGreatDoorTxt
namespace Go.Proofs.YtdabllkphibfmaaGreatDoor
open Go Go.RowKit PFnExtStrings Go.Proofs.YtdabllkphibfmaaGreatDoorW.PrintWords

set_option maxHeartbeats 4000000 in
/-- ExtQuoted. -/
theorem extQuoted (K : Nat) (code : List Int) (A : Option Addr) (c : Nat) (x r : ByteArray) (p' : Int) (b1 b2 : Bool) (w : World) (hA : Kd.C (Kd.int .u8) w A code.length code) (h : spec_extStyle_text.f K code 0 false false x = some (r, p', b1, b2)) :
    Calls Tryz.prog 11 #[.string x, .slice A code.length c] w fun e w' => e = .returned (.string r) ∧ Below w.heap.size w w' := by
  have hI := IsS67.new w w A c code 0 false false (Below.refl _ w) hA
  have hc := spec_extStyle_text.calls K w.heap.size code 0 false false x r p' b1 b2 w _ hI ((Below.refl _ w).alloc (Nat.le_refl _) _) h
  have HC := Lib.hid hc
  clear hc hI h hA
  go_enter Tryz.func11, Tryz.ntmps11
  go_wp2_with (first | (go_at_call 22; refine (HC.out).mono ?_; rintro e w1 ⟨rfl, _, hb, _⟩; have HB := Lib.hid hb; clear hb))
  go_ret
  exact ⟨rfl, HB.out⟩

theorem Sc.SubC_out (s : Sc) (fn : Nat) : s.SubC fn (fun _ _ => .out) := fun _ _ _ _ _ h => absurd rfl h

theorem below_n {B : Nat} {a w : World} (h : Below B a w) (n : Nat) : Below B a (w.drewN n) := ⟨h.os, h.tape, h.output, h.size, h.block⟩

theorem eof_below {w w' : World} {ea : Addr} (h : w.cell? ⟨1, 0, none⟩ = some (EOFv ea)) (hb : Below w.heap.size w w') : w'.cell? ⟨1, 0, none⟩ = some (EOFv ea) :=
  (World.cell?_of_block (a := ⟨1, 0, none⟩) (hb.block 1 (World.block_lt_of_cell? w ⟨1, 0, none⟩ h))).trans h

theorem one_row {w : World} {B e size : Nat} {v : Value} {xs : List Value} (h : w.ownsRow B e size v 1 xs) : ∃ g cap, v = .slice (some ⟨g, 0, none⟩) 1 cap ∧ ∀ j, j < size → w.cell? ⟨g, j, none⟩ = xs[j]? := by
  rcases h.2 with ⟨_, h0⟩ | ⟨g, cap, cur, rfl, hb, hh, _, _, _, hr⟩
  · omega
  · refine ⟨g, cap, rfl, fun j hj => ?_⟩
    rw [← hr, List.getElem?_take, if_pos (by omega)]
    simp [World.cell?, hh]

set_option maxRecDepth 1000000 in
set_option maxHeartbeats 8000000 in
/-- The law. -/
theorem lawStrings (code : List Int) (A : Option Addr) (c : Nat) (x : ByteArray) (ea : Addr) (w : World) (heof : w.cell? ⟨1, 0, none⟩ = some (EOFv ea)) (hA : Kd.C (Kd.int .u8) w A code.length code) :
    Calls Tryz.prog 4 #[.string x, .slice A code.length c] w fun e w' => e = .returned (.bool true) ∧ Below w.heap.size w w' := by
  by_cases h1 : x.size ≤ 2147483647
  · by_cases h2 : code.length ≤ 2147483647
    · obtain ⟨k, b, hb, hb2⟩ := extText_is x
      have hc10 := laws_extText.calls k x b w hb
      by_cases h3 : b = true ∧ code.length ≤ 2000
      · obtain ⟨rfl, h3⟩ := h3
        obtain ⟨hs, hch⟩ := hb2 rfl
        obtain ⟨K, r, p', hK, hr, ht⟩ := quoted_read code (by omega) x hs hch
        have hq : ∀ n, Calls Tryz.prog 11 #[.string x, .slice A code.length c] (w.drewN n) fun e w' => e = .returned (.string r) ∧ Below w.heap.size w w' := fun n =>
          (extQuoted K code A c x r p' false false (w.drewN n) (Kd.C_drewN hA n) hK).mono fun e w' h => ⟨h.1, (below_n (Below.refl _ w) n).trans h.2⟩
        have HQ := Lib.hid hq
        have HT := Lib.hid ht
        have HC10 := Lib.hid hc10
        have HEOF := Lib.hid heof
        clear hq ht hc10 heof hK hch hA hb hb2
        go_enter Tryz.func4, Tryz.ntmps4
        go_wp2_with (first
          | (go_at_call 10; refine (HC10.out).mono ?_; rintro e w1 ⟨rfl, ⟨⟨n, rfl⟩⟩⟩)
          | (go_at_call 11; refine (HQ.out _).mono ?_; rintro e w1 ⟨rfl, hb1⟩; have HB1 := Lib.hid hb1; clear hb1)
          | (go_at_call 9; refine (extTokens r ea _ (eof_below HEOF.out HB1.out) (by omega) (fun s _ => s.SubC_out 52) (fun s _ => s.SubC_out 53) 2 _ true (by simp) (by simp) (by simp [TV.inR]) HT.out).mono ?_; rintro e w2 ⟨v, rfl, ho, hb2⟩; obtain ⟨g, cap, rfl, hrow⟩ := one_row ho; have hc0 := hrow 0 (by decide); have hc1 := hrow 1 (by decide); have HB2 := Lib.hid hb2; clear ho hb2 hrow; simp [extCells, TV.text] at hc0 hc1))
        go_ret
        exact ⟨rfl, HB1.out.trans (HB2.out.mono HB1.out.size)⟩
      · have HC10 := Lib.hid hc10
        clear hc10 heof hA hb hb2
        cases b with
        | false =>
          go_enter Tryz.func4, Tryz.ntmps4
          go_wp2_with (go_at_call 10; refine (HC10.out).mono ?_; rintro e w1 ⟨rfl, ⟨⟨n, rfl⟩⟩⟩)
          go_ret
          exact ⟨rfl, below_n (Below.refl _ w) _⟩
        | true =>
          have h4 : 2000 < code.length := by
            rcases Nat.lt_or_ge 2000 code.length with h | h
            · exact h
            · exact absurd ⟨rfl, h⟩ h3
          go_enter Tryz.func4, Tryz.ntmps4
          go_wp2_with (go_at_call 10; refine (HC10.out).mono ?_; rintro e w1 ⟨rfl, ⟨⟨n, rfl⟩⟩⟩)
          go_ret
          exact ⟨rfl, below_n (Below.refl _ w) _⟩
    · go_enter Tryz.func4, Tryz.ntmps4
      go_wp2
      go_ret
      exact ⟨rfl, Below.refl _ w⟩
  · go_enter Tryz.func4, Tryz.ntmps4
    go_wp2
    go_ret
    exact ⟨rfl, Below.refl _ w⟩

end Go.Proofs.YtdabllkphibfmaaGreatDoor
