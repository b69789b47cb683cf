/- ZzQuote, ExtQuote and FnExtQuoteBack, walked. -/
import Derived.Test.YtdabllkphibfmaaGreatDoorQuoF
import Derived.Test.YtdabllkphibfmaaGreatDoorLawS
namespace Go.Proofs.YtdabllkphibfmaaGreatDoor
open Go Go.RowKit PFnExtStrings Go.Proofs.YtdabllkphibfmaaGreatDoorW.PrintWords

/-- A quoted text is one token. -/
theorem quote_toks (E s : List UInt8) (h : ReadAs E s) (n : Nat) (hn : n = E.length + 2) : toks (fun _ _ => .out) (fun _ _ => .out) n 2 (34 :: (E ++ [34])) = some ([(9, .str s, 0)], true) := by
  obtain ⟨k, hk, hre⟩ := h
  have hs : strRun ((E ++ [34]).length + 1) [] (E ++ [34]) = .ok s [] := by
    have h1 := hre ((E ++ [34]).length + 1 - k) [] [34]
    have hn2 : (E ++ [34]).length = E.length + 1 := by simp
    rw [Nat.sub_add_cancel (by omega)] at h1
    rw [h1]
    obtain ⟨q, hq⟩ : ∃ q, (E ++ [34]).length + 1 - k = q + 1 := ⟨(E ++ [34]).length - k, by omega⟩
    rw [hq, strRun]
    simp [strStep]
  have ht : tokAt (fun _ _ => .out) (fun _ _ => .out) 34 (E ++ [34]) = .tok 9 (.str s) [] := by
    have hs2 : strSub (E ++ [34]) = .tok 9 (.str s) [] := by unfold strSub; rw [hs]
    simp [tokAt, hs2]
  rw [toks]
  have hb : (34 :: (E ++ [34]) : List UInt8).dropWhile isBlank = 34 :: (E ++ [34]) := by simp [isBlank]
  rw [hb]
  dsimp only
  rw [ht]
  dsimp only
  rw [toks]
  simp [hn]

theorem writeEsc (x : ByteArray) (hx : x.size ≤ 300) (esc : Bool) (gb : Nat) (w0 w : World) (hch : Chars x 0) (hS : Sets w0) (hbuf : Lib.IsBuffer 107 5 w0.heap.size gb [] w) (hbel : Below w0.heap.size w0 w) :
    Calls Tryz.prog 42 #[.string x, .pointer (some ⟨gb, 0, none⟩), .bool esc] w (QuoPost x gb w0) := by
  cases esc
  · exact writeEscF x hx gb w0 w hch hS hbuf hbel
  · exact writeEscT x hx gb w0 w hch hS hbuf hbel

/-- What ZzQuote and ExtQuote give. -/
def QPost (x : ByteArray) (w : World) (e : Ending) (w' : World) : Prop :=
  ∃ r : ByteArray, e = .returned (.string r) ∧ Below w.heap.size w w' ∧ r.size ≤ 4000 ∧ toks (fun _ _ => .out) (fun _ _ => .out) r.size 2 r.data.toList = some ([(9, .str x.data.toList, 0)], true)

theorem zzQuote (x : ByteArray) (hx : x.size ≤ 300) (esc : Bool) (w : World) (hch : Chars x 0) (hS : Sets w) : Calls Tryz.prog 29 #[.string x, .bool esc] w (QPost x w) := by
  have hf := Lib.fresh_isBuffer 107 5 w
  have hc := writeEsc x hx esc w.heap.size w _ hch hS hf ((Below.refl _ w).alloc (Nat.le_refl _) _)
  have HC := Lib.hid hc
  clear hf hc hch hS
  go_enter Tryz.func29, Tryz.ntmps29
  go_wp2_with (first | (go_at_call 42; refine (HC.out).mono ?_; rintro e w1 ⟨E, rfl, h1, h2, h3, h4⟩; have H1 := Lib.hid h1; have H2 := Lib.hid h2; have H4 := Lib.hid h4; clear h1 h2 h4) | (go_at_call 43; refine (Tryz.Buffer_String _ _ _ _ H1.out).mono ?_; rintro e w2 ⟨rfl, n, rfl⟩))
  go_ret
  refine ⟨_, rfl, below_n H2.out n, by simp [ByteArray.size]; omega, ?_⟩
  exact quote_toks E _ H4.out _ (by simp [ByteArray.size])

theorem extQuote (x : ByteArray) (hx : x.size ≤ 300) (esc : Bool) (w : World) (hch : Chars x 0) (hS : Sets w) : Calls Tryz.prog 15 #[.string x, .bool esc] w (QPost x w) := by
  have hc := zzQuote x hx esc w hch hS
  have HC := Lib.hid hc
  clear hc hch hS
  go_enter Tryz.func15, Tryz.ntmps15
  go_wp2_with (first | (go_at_call 29; refine (HC.out).mono ?_; rintro e w1 ⟨r, rfl, h2, h3, h4⟩; have H2 := Lib.hid h2; have H4 := Lib.hid h4; clear h2 h4))
  go_ret
  exact ⟨r, rfl, H2.out, h3, H4.out⟩

set_option maxRecDepth 1000000 in
set_option maxHeartbeats 8000000 in
/-- The law. -/
theorem lawQuote (x : ByteArray) (esc : Bool) (ea : Addr) (w : World) (heof : w.cell? ⟨1, 0, none⟩ = some (EOFv ea)) (hS : Sets w) :
    Calls Tryz.prog 7 #[.string x, .bool esc] w fun e w' => e = .returned (.bool true) ∧ Below w.heap.size w w' := by
  by_cases h1 : x.size ≤ 2147483647
  · obtain ⟨k, b, hb, hb2⟩ := extText_is x
    have hc10 := laws_extText.calls k x b w hb
    cases b with
    | true =>
      obtain ⟨hs, hch⟩ := hb2 rfl
      have hq : ∀ n, Calls Tryz.prog 15 #[.string x, .bool esc] (w.drewN n) (fun e w' => ∃ r : ByteArray, e = .returned (.string r) ∧ Below w.heap.size w w' ∧ r.size ≤ 4000 ∧ toks (fun _ _ => .out) (fun _ _ => .out) r.size 2 r.data.toList = some ([(9, .str x.data.toList, 0)], true)) := fun n =>
        (extQuote x hs esc (w.drewN n) hch (hS.below (below_n (Below.refl _ w) n))).mono fun e w' ⟨r, h1, h2, h3, h4⟩ => ⟨r, h1, (below_n (Below.refl _ w) n).trans h2, h3, h4⟩
      have HQ := Lib.hid hq
      have HC10 := Lib.hid hc10
      have HEOF := Lib.hid heof
      clear hq hc10 heof hch hb hb2 hS
      go_enter Tryz.func7, Tryz.ntmps7
      go_wp2_with (first
        | (go_at_call 10; refine (HC10.out).mono ?_; rintro e w1 ⟨rfl, ⟨⟨n, rfl⟩⟩⟩)
        | (go_at_call 15; refine (HQ.out _).mono ?_; rintro e w1 ⟨r, rfl, hb1, hr, ht⟩; have HB1 := Lib.hid hb1; have HT := Lib.hid ht; clear hb1 ht)
        | (go_at_call 9; refine (extTokens r ea _ (eof_below HEOF.out HB1.out) (by omega) (fun s _ => s.SubC_out 52) (fun s _ => s.SubC_out 53) 2 _ true (by simp) (by simp) (by simp [TV.inR]) HT.out).mono ?_; rintro e w2 ⟨v, rfl, ho, hb2⟩; obtain ⟨g, cap, rfl, hrow⟩ := one_row ho; have hc0 := hrow 0 (by decide); have hc1 := hrow 1 (by decide); have hc4 := hrow 4 (by decide); have HB2 := Lib.hid hb2; clear ho hb2 hrow; simp [extCells, TV.text] at hc0 hc1 hc4))
      go_ret
      exact ⟨rfl, HB1.out.trans (HB2.out.mono HB1.out.size)⟩
    | false =>
      have HC10 := Lib.hid hc10
      clear hc10 heof hb hb2 hS
      go_enter Tryz.func7, Tryz.ntmps7
      go_wp2_with (go_at_call 10; refine (HC10.out).mono ?_; rintro e w1 ⟨rfl, ⟨⟨n, rfl⟩⟩⟩)
      go_ret
      exact ⟨rfl, below_n (Below.refl _ w) _⟩
  · clear hS heof
    go_enter Tryz.func7, Tryz.ntmps7
    go_wp2
    go_ret
    exact ⟨rfl, Below.refl _ w⟩

end Go.Proofs.YtdabllkphibfmaaGreatDoor
