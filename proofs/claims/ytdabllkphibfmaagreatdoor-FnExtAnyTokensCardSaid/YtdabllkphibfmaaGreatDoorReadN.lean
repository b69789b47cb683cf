/- readNNextBytes, by its contracts. -/
import Derived.Test.YtdabllkphibfmaaGreatDoorNext
import Derived.Deep.LoopGhost
namespace Go.Proofs.YtdabllkphibfmaaGreatDoor
open Go Go.RowKit

/-- Behind the first byte the buffer's row stays the same one. -/
theorem Sc.St.some_g {s : Sc} {g : Option Nat} {q p : Nat} {w : World} (h : s.St g q p w) (hq : 0 < q) : ∃ x, g = some x := by
  rcases h.at_ with ⟨_, h, _⟩ | ⟨x, _, _, hx, _⟩ | ⟨x, hx, _⟩
  · omega
  · exact ⟨x, hx⟩
  · exact ⟨x, hx⟩

theorem gOk.same {g g' : Option Nat} {w : World} (h : gOk g g' w) (hg : ∃ x, g = some x) : g' = g := by
  obtain ⟨x, hx⟩ := hg
  rcases h with h | ⟨h, _⟩
  · exact h
  · rw [h] at hx; cases hx

theorem Sc.St.next1 {s : Sc} {g : Option Nat} {q p : Nat} {w : World} (h : s.St g q p w) (h0 : 0 < q) (hq : q < s.T.length) :
    Calls Tryz.prog 47 #[.pointer (some ⟨s.j, 0, none⟩)] w fun e w' => e = .returned (.tuple #[.int .u8 ((s.T[q]'hq).toNat : Int), .nilIface]) ∧ s.St g (q + 1) (q % 512 + 1) w' ∧ Fr (s.S g) w w' := by
  refine (h.next hq).mono ?_
  rintro e w' ⟨he, g', h1, h2, h3⟩
  obtain rfl := h3.same (h.some_g h0)
  exact ⟨he, h1, h2⟩

theorem Sc.St.end1 {s : Sc} {g : Option Nat} {q p : Nat} {w : World} (h : s.St g q p w) (h0 : 0 < q) (hq : q = s.T.length) :
    Calls Tryz.prog 47 #[.pointer (some ⟨s.j, 0, none⟩)] w fun e w' => e = .returned (.tuple #[.int .u8 0, EOFv s.ea]) ∧ s.St g s.T.length 0 w' ∧ Fr (s.S g) w w' := by
  subst hq
  refine h.end_.mono ?_
  rintro e w' ⟨he, g', h1, h2, h3⟩
  obtain rfl := h3.same (h.some_g h0)
  exact ⟨he, h1, h2⟩

/-- The row u behind k bytes that were put in from place off on. -/
def fillA (T : List UInt8) (q off : Nat) (c : Array Value) : Nat → Array Value
  | 0 => c
  | k + 1 => (fillA T q off c k).setIfInBounds (k + off) (.int .u8 ((T[q + k]?).getD 0).toNat)

theorem fillA_size (T : List UInt8) (q off : Nat) (c : Array Value) (k : Nat) : (fillA T q off c k).size = c.size := by
  induction k with
  | zero => rfl
  | succ k ih => simp [fillA, ih]

/-- What a scanner has is not the row u. -/
def Sc.free (s : Sc) (g : Option Nat) (u : Nat) : Prop := ∀ k, s.own g k → k ≠ u

theorem Sc.St.setCell {s : Sc} {g : Option Nat} {q p : Nat} {w : World} (h : s.St g q p w) {a : Addr} (hu : s.free g a.block) (v : Value) : s.St g q p (w.setCell a v) :=
  h.of_heap fun k hk => Below.heap_setCell _ _ _ _ (hu k hk)

/-- The blocks that a read into the row u may turn. -/
def Sc.SU (s : Sc) (g : Option Nat) (u : Nat) (k : Nat) : Prop := s.S g k ∨ k = u

theorem cell_in {w : World} {u i : Nat} {c : Array Value} {T : TypeId} (h : w.heap[u]? = some (.cells c T (0, 0))) (hi : i < c.size) : (∃ v, w.cell? ⟨u, i, none⟩ = some v) ∧ w.frozen? ⟨u, i, none⟩ = false := by
  refine ⟨⟨c[i], ?_⟩, by simp [World.frozen?, h]⟩
  simp [World.cell?, h, hi]

set_option maxHeartbeats 1000000 in
theorem readN_ok (s : Sc) (g : Option Nat) (q p u n off : Nat) (c : Array Value) (w : World) (h : s.St g q p w) (h0 : 0 < q) (hq : q + n ≤ s.T.length) (hu : w.heap[u]? = some (.cells c 5 (0, 0))) (hc : c.size = 4) (hn : off + n ≤ 4) (hfree : s.free g u) :
    Calls Tryz.prog 68 #[.pointer (some ⟨s.j, 0, none⟩), .slice (some ⟨u, 0, none⟩) 4 4, .int .i64 n, .int .i64 off] w fun e w' => e = .returned .nilIface ∧ (∃ p', s.St g (q + n) p' w') ∧ w'.heap[u]? = some (.cells (fillA s.T q off c n) 5 (0, 0)) ∧ Fr (s.SU g u) w w' := by
  have hb1 : (n : Int) ≤ 4 := by omega
  have hb2 : (off : Int) ≤ 4 := by omega
  have HH := Lib.hid h
  have HU := Lib.hid hu
  have HC := Lib.hid hc
  have HF := Lib.hid hfree
  clear h hu hc hfree
  go_enter Tryz.func68, Tryz.ntmps68
  go_wp2
  go_loopg [10] n (fun m i wx => ∃ k : Nat, k ≤ n ∧ m = n - k ∧ i = .int .i64 k ∧ Aside ((∃ p', s.St g (q + k) p' wx) ∧ wx.heap[u]? = some (.cells (fillA s.T q off c k) 5 (0, 0)) ∧ Fr (s.SU g u) w wx))
  case atStart => exact ⟨0, Nat.zero_le _, rfl, rfl, ⟨p, HH.out⟩, HU.out, Fr.refl _ _⟩
  case round =>
    obtain ⟨k, hk, rfl, rfl, hA⟩ := hrel
    by_cases hkn : k < n
    · obtain ⟨⟨p', h1⟩, h2, h3⟩ := hA.out
      have hkn' : (k : Int) < n := by omega
      have hq1 : q + k < s.T.length := by omega
      have hz1 : (fillA s.T q off c k).size = 4 := (fillA_size _ _ _ _ _).trans HC.out
      have H1 := Lib.hid h1
      have H2 := Lib.hid h2
      have H3 := Lib.hid h3
      have HZ := Lib.hid hz1
      clear h1 h2 h3 hA hz1
      go_wp2_with (go_at_call 47; refine (H1.out.next1 (by omega) hq1).mono ?_; rintro e w1 ⟨rfl, h4, h5⟩; have hu1 : w1.heap[u]? = _ := (h5.block u (lt_of_heap H2.out) (by rintro (h | h | h); exact HF.out _ (.inr (.inr (.inl rfl))) h.symm; exact HF.out _ (.inr (.inr (.inr (.inl rfl)))) h.symm; exact HF.out _ (.inr (.inr (.inr (.inr h)))) rfl)).trans H2.out; have H4 := Lib.hid h4; have H5 := Lib.hid h5; obtain ⟨⟨v0, hv⟩, hv2⟩ := cell_in (i := k + off) hu1 (by rw [HZ.out]; omega); have HU1 := Lib.hid hu1; clear h4 h5 hu1)
      go_roundg (n - (k + 1))
      case measure => omega
      case rel =>
        refine ⟨k + 1, by omega, rfl, by go_num, ⟨⟨_, H4.out.setCell (a := ⟨u, k + off, none⟩) HF.out _⟩, ?_, ?_⟩⟩
        · have := heap_set (o := k + off) (v := .int .u8 ((s.T[q + k]'hq1).toNat : Int)) HU1.out
          simp only [fillA]
          rw [List.getElem?_eq_getElem hq1]
          exact this
        · exact Fr.setCell (H3.out.trans (H5.out.mono fun i _ hi => .inl hi)) (.inl (.inr rfl)) _
    · obtain rfl : k = n := by omega
      have HA := Lib.hid hA
      clear hA
      go_wp2
      go_ret
      obtain ⟨h1, h2, h3⟩ := HA.out.out
      exact ⟨rfl, h1, h2, h3⟩

set_option maxHeartbeats 1000000 in
/-- Where fewer bytes are left: io.EOF. -/
theorem readN_short (s : Sc) (g : Option Nat) (q p u n off : Nat) (c : Array Value) (w : World) (h : s.St g q p w) (h0 : 0 < q) (hqT : q ≤ s.T.length) (hq : s.T.length < q + n) (hu : w.heap[u]? = some (.cells c 5 (0, 0))) (hc : c.size = 4) (hn : off + n ≤ 4) (hfree : s.free g u) :
    Calls Tryz.prog 68 #[.pointer (some ⟨s.j, 0, none⟩), .slice (some ⟨u, 0, none⟩) 4 4, .int .i64 n, .int .i64 off] w fun e w' => e = .returned (EOFv s.ea) ∧ Fr (s.SU g u) w w' := by
  have hb1 : (n : Int) ≤ 4 := by omega
  have hb2 : (off : Int) ≤ 4 := by omega
  have HH := Lib.hid h
  have HU := Lib.hid hu
  have HC := Lib.hid hc
  have HF := Lib.hid hfree
  clear h hu hc hfree
  go_enter Tryz.func68, Tryz.ntmps68
  go_wp2
  go_loopg [10] n (fun m i wx => ∃ k : Nat, k ≤ n ∧ q + k ≤ s.T.length ∧ m = n - k ∧ i = .int .i64 k ∧ Aside ((∃ p', s.St g (q + k) p' wx) ∧ wx.heap[u]? = some (.cells (fillA s.T q off c k) 5 (0, 0)) ∧ Fr (s.SU g u) w wx))
  case atStart => exact ⟨0, Nat.zero_le _, by omega, rfl, rfl, ⟨p, HH.out⟩, HU.out, Fr.refl _ _⟩
  case round =>
    obtain ⟨k, hk, hkT, rfl, rfl, hA⟩ := hrel
    have hkn : k < n := by omega
    by_cases hkq : q + k < s.T.length
    · obtain ⟨⟨p', h1⟩, h2, h3⟩ := hA.out
      have hkn' : (k : Int) < n := by omega
      have hq1 : q + k < s.T.length := hkq
      have hz1 : (fillA s.T q off c k).size = 4 := (fillA_size _ _ _ _ _).trans HC.out
      have H1 := Lib.hid h1
      have H2 := Lib.hid h2
      have H3 := Lib.hid h3
      have HZ := Lib.hid hz1
      clear h1 h2 h3 hA hz1
      go_wp2_with (go_at_call 47; refine (H1.out.next1 (by omega) hq1).mono ?_; rintro e w1 ⟨rfl, h4, h5⟩; have hu1 : w1.heap[u]? = _ := (h5.block u (lt_of_heap H2.out) (by rintro (h | h | h); exact HF.out _ (.inr (.inr (.inl rfl))) h.symm; exact HF.out _ (.inr (.inr (.inr (.inl rfl)))) h.symm; exact HF.out _ (.inr (.inr (.inr (.inr h)))) rfl)).trans H2.out; have H4 := Lib.hid h4; have H5 := Lib.hid h5; obtain ⟨⟨v0, hv⟩, hv2⟩ := cell_in (i := k + off) hu1 (by rw [HZ.out]; omega); have HU1 := Lib.hid hu1; clear h4 h5 hu1)
      go_roundg (n - (k + 1))
      case measure => omega
      case rel =>
        refine ⟨k + 1, by omega, by omega, rfl, by go_num, ⟨⟨_, H4.out.setCell (a := ⟨u, k + off, none⟩) HF.out _⟩, ?_, ?_⟩⟩
        · have := heap_set (o := k + off) (v := .int .u8 ((s.T[q + k]'hq1).toNat : Int)) HU1.out
          simp only [fillA]
          rw [List.getElem?_eq_getElem hq1]
          exact this
        · exact Fr.setCell (H3.out.trans (H5.out.mono fun i _ hi => .inl hi)) (.inl (.inr rfl)) _
    · obtain ⟨⟨p', h1⟩, h2, h3⟩ := hA.out
      have hkn' : (k : Int) < n := by omega
      have hq1 : q + k = s.T.length := by omega
      have hz1 : (fillA s.T q off c k).size = 4 := (fillA_size _ _ _ _ _).trans HC.out
      have H1 := Lib.hid h1
      have H2 := Lib.hid h2
      have H3 := Lib.hid h3
      have HZ := Lib.hid hz1
      have HQ := Lib.hid hq1
      clear h1 h2 h3 hA hz1 hq1
      go_wp2_with (go_at_call 47; refine (H1.out.end1 (by omega) HQ.out).mono ?_; rintro e w1 ⟨rfl, h4, h5⟩; have hu1 : w1.heap[u]? = _ := (h5.block u (lt_of_heap H2.out) (by rintro (h | h | h); exact HF.out _ (.inr (.inr (.inl rfl))) h.symm; exact HF.out _ (.inr (.inr (.inr (.inl rfl)))) h.symm; exact HF.out _ (.inr (.inr (.inr (.inr h)))) rfl)).trans H2.out; have H4 := Lib.hid h4; have H5 := Lib.hid h5; obtain ⟨⟨v0, hv⟩, hv2⟩ := cell_in (i := k + off) hu1 (by rw [HZ.out]; omega); have HU1 := Lib.hid hu1; clear h4 h5 hu1)
      go_ret
      exact ⟨rfl, Fr.setCell (H3.out.trans (H5.out.mono fun i _ hi => .inl hi)) (.inl (.inr rfl)) _⟩

end Go.Proofs.YtdabllkphibfmaaGreatDoor
