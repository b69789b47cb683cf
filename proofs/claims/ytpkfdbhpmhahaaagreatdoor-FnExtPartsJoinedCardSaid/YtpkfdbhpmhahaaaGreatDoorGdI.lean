/- ExtString of the reference: it gives a text. -/
import Derived.Test.YtpkfdbhpmhahaaaGreatDoorGa
import Derived.Test.YtpkfdbhpmhahaaaGreatDoorGdR
namespace Go.Proofs.YtpkfdbhpmhahaaaGreatDoor
open Go Go.RowKit
set_option linter.unusedSimpArgs false
set_option linter.unusedVariables false

theorem run_sub (s : ByteArray) (p P : Nat) (h1 : p ≤ P) (h2 : P ≤ s.size) (W : World) : (Instr.slice 9 (.string s) (some (.int .i64 (p : Nat))) (some (.int .i64 (P : Nat))) none).run Tryz.prog W = .ok (.string (s.extract p P)) W := by
  have h3 : (p : Int) ≤ (P : Nat) := by omega
  have h4 : (P : Int) ≤ (s.size : Nat) := by omega
  go_simp

/-- The row of bytes that is written, behind some of the text. -/
def Es (w : World) (n : Nat) (v : Value) (wx : World) : Prop := ∃ l : List UInt8, l.length ≤ n ∧ wx.ownsRow w.heap.size 5 1 v l.length (Lib.byteCells l) ∧ Below w.heap.size w wx

def EsR (w : World) (s : ByteArray) (m : Nat) (v5 v6 : Value) (wx : World) : Prop := ∃ i : Nat, m = s.size - i ∧ i ≤ s.size ∧ v6 = .int .i64 (i : Nat) ∧ Es w (1 + 6 * i) v5 wx

theorem Es.mono {w wx : World} {n n' : Nat} {v : Value} (h : Es w n v wx) (hn : n ≤ n') : Es w n' v wx := by
  obtain ⟨l, h1, h2, h3⟩ := h
  exact ⟨l, Nat.le_trans h1 hn, h2, h3⟩
theorem Es.step {w wx : World} {n : Nat} {v : Value} (h : Es w n v wx) {W : World} (hb : Below wx.heap.size wx W) : Es w n v W := by
  obtain ⟨l, h1, h2, h3⟩ := h
  exact ⟨l, h1, ownsRow_of h2 fun q hq => hb.block q (h2.lt q hq).2, h3.trans (hb.mono h3.size)⟩

theorem own_ge {w : World} {base e k n : Nat} {v : Value} {xs : List Value} (h : w.ownsRow base e k v n xs) : ∀ q, v.ownBlock = some q → base ≤ q := fun q hq => (h.lt q hq).1
theorem es_end {w wx w6 : World} {l l2 : List UInt8} {n gg cap : Nat} {v : Value} (hl : l.length ≤ n) (h6 : l2.length ≤ 6) (ho : w6.ownsRow w.heap.size 5 1 (.slice (some ⟨gg, 0, none⟩) (l.length + l2.length) cap) (l.length + l2.length) (Lib.byteCells l ++ Lib.byteCells l2)) (hb : Below w.heap.size w wx) (hg : wx.grownBy w6 v.ownBlock) (hv : ∀ q, v.ownBlock = some q → w.heap.size ≤ q) (hs : w.heap.size ≤ wx.heap.size) : Es w (n + 6) (.slice (some ⟨gg, 0, none⟩) (l.length + l2.length) cap) w6 :=
  ⟨l ++ l2, by rw [List.length_append]; omega, by rw [List.length_append, show Lib.byteCells (l ++ l2) = Lib.byteCells l ++ Lib.byteCells l2 by simp [Lib.byteCells]]; exact ho, below_grown hb hg hv hs⟩

theorem u8_nat (c : Int) : ∃ b : Nat, IntKind.u8.wrap c = (b : Nat) ∧ b < 256 := ⟨(IntKind.u8.wrap c).toNat, by rw [IntKind.wrap_u8]; omega, by rw [IntKind.wrap_u8]; omega⟩

theorem es_two {w wx : World} {l : List UInt8} {n : Nat} {v : Value} {a b : ByteArray} (hl : l.length ≤ n) (h6 : a.size + b.size ≤ 6) (ho : wx.ownsRow w.heap.size 5 1 v (l.length + a.size + b.size) (Lib.byteCells l ++ Lib.strCells a ++ Lib.strCells b)) (hb : Below w.heap.size w wx) : Es w (n + 6) v wx := by
  have e : Lib.byteCells (l ++ a.data.toList ++ b.data.toList) = Lib.byteCells l ++ Lib.strCells a ++ Lib.strCells b := by simp [Lib.byteCells, Lib.strCells]
  have e2 : (l ++ a.data.toList ++ b.data.toList).length = l.length + a.size + b.size := by rw [List.length_append, List.length_append]; rfl
  exact ⟨l ++ a.data.toList ++ b.data.toList, by rw [e2]; omega, by rw [e, e2]; exact ho, hb⟩

theorem es_one {w wx : World} {l : List UInt8} {n k : Nat} {v : Value} {a : ByteArray} (hl : l.length ≤ n) (h6 : a.size ≤ k) (ho : wx.ownsRow w.heap.size 5 1 v (l.length + a.size) (Lib.byteCells l ++ Lib.strCells a)) (hb : Below w.heap.size w wx) : Es w (n + k) v wx := by
  have e : Lib.byteCells (l ++ a.data.toList) = Lib.byteCells l ++ Lib.strCells a := by simp [Lib.byteCells, Lib.strCells]
  have e2 : (l ++ a.data.toList).length = l.length + a.size := by rw [List.length_append]; rfl
  exact ⟨l ++ a.data.toList, by rw [e2]; omega, by rw [e, e2]; exact ho, hb⟩

theorem es_conv {W : World} {base gg cap : Nat} {l : List UInt8} (h : W.ownsRow base 5 1 (.slice (some ⟨gg, 0, none⟩) (l.length + 1) cap) (l.length + 1) (Lib.byteCells l ++ [.int .u8 34])) : (convert 23 9 (.slice (some ⟨gg, 0, none⟩) (l.length + 1) cap)).run Tryz.prog W = .ok (.string ⟨(l ++ [34]).toArray⟩) W := by
  have e : (l ++ [34]).length = l.length + 1 := by simp
  have e2 : Lib.byteCells (l ++ [34]) = Lib.byteCells l ++ [.int .u8 34] := by simp [Lib.byteCells]
  exact conv_own (acc := l ++ [34]) (by rw [e, e2]; exact h)

set_option maxRecDepth 100000 in
set_option maxHeartbeats 8000000 in
theorem extString (s : ByteArray) (hl : s.size ≤ 300) (esc : Bool) (w : World) : Calls Tryz.prog 18 #[.string s, .bool esc] w (TextPost 2000 w) := by
  obtain ⟨i0, hi0, hz0, hz1, hz2⟩ := info_parts info5
  go_enter Tryz.func18, Tryz.ntmps18
  go_wp2
  go_loopg [5, 6] s.size (fun m v5 v6 wx => Aside (EsR w s m v5 v6 wx))
  case atStart => exact ⟨0, rfl, by omega, rfl, [34], by simp, own_one w w.heap.size 34 (Nat.le_refl _), (Below.refl _ _).alloc (Nat.le_refl _) _⟩
  case round =>
    obtain ⟨i, rfl, hi, rfl, hes⟩ := hrel.out
    have HES := Lib.hid hes
    clear hrel hes
    by_cases hlt : i < s.size
    · have hsz : (s.extract i s.size).size = s.size - i := by simp [ByteArray.size_extract]
      obtain ⟨c0, hc0⟩ : ∃ c, s[i]'hlt = c := ⟨_, rfl⟩
      go_upto_if 22 with (first | (go_at_call 28; refine (rune (s.extract i s.size) (by omega) (by omega) _).mono ?_; rintro e2 w2 ⟨n, c, hn, rfl, rfl⟩; have HN := Lib.hid hn; clear hn))
      go_cut [7, 8] (fun v7 v8 wx => Aside (∃ (n : Nat) (c : Int), v7 = .int .i64 (n : Nat) ∧ v8 = .int .i64 c ∧ 1 ≤ n ∧ i + n ≤ s.size) ∧ Aside (Below wr.heap.size wr wx))
      case first =>
        rcases HN.out with rfl | ⟨k, rfl, h1, h2, _⟩
        · go_wp2
          go_quiet (fail)
          go_wp2
          go_meet
          exact ⟨⟨1, _, rfl, rfl, by omega, by omega⟩, below_dn (Below.refl _ _) _⟩
        · have k0 : ((k : Int) == 0) = false := beq_eq_false_iff_ne.2 (by omega)
          go_wp2
          go_meet
          exact ⟨⟨k, _, rfl, rfl, h1, by omega⟩, Below.refl _ _⟩
      case rest =>
        obtain ⟨ha, hb⟩ := hcut
        obtain ⟨n, c, rfl, rfl, h1, h2⟩ := ha.out
        have HES2 := Lib.hid (HES.out.step hb.out)
        clear ha hb HN
        go_upto_block 2 with fail
        go_cut [5] (fun v5 wx => Aside (Es w (1 + 6 * i + 6) v5 wx ∨ Es w (1 + 6 * i + n) v5 wx))
        case first =>
          obtain ⟨l, hl6, hown, hbel⟩ := HES2.out
          have HOWN := Lib.hid hown
          have HBEL := Lib.hid hbel
          have hszw := hbel.size
          clear hown hbel HES HES2
          by_cases h34 : c = 34
          · subst h34
            go_wp2_with (first | (at_builtin; refine wpList_append_lies _ (by rfl) _ _ _ (by rfl) w.heap.size 5 i0 _ 1 1 Tryz.underlying23 hi0 hz0 hz1 hz2 rfl (by omega) u5 l.length (Lib.byteCells l) (by rfl) (HOWN.out.alloc _) ⟨wc.heap.size, 0, none⟩ 2 2 [.int .u8 92, .int .u8 34] (by rfl) (by rfl) (World.news_of_block (cs := #[.int .u8 92, .int .u8 34]) (t := 5) (fr := (0, 0)) (heap_alloc_new wc _)) (by simp [Value.oneCell']) (by omega) (by unfold maxLen; omega) (by omega) (by simp; omega) (wc.heap.size + 1) (by simp) ?_; intro gg1 cap1 wx1 hown6 hgrow hat hlt6; have HO1 := Lib.hid hown6; have HG1 := Lib.hid hgrow; clear hown6 hgrow hat hlt6))
            go_meet
            exact .inl (es_end (l2 := [92, 34]) hl6 (by simp) HO1.out (HBEL.out.alloc (by omega) _) HG1.out (own_ge HOWN.out) (by simp; omega))
          by_cases h92 : c = 92
          · subst h92
            go_wp2_with (first | (at_builtin; refine wpList_append_lies _ (by rfl) _ _ _ (by rfl) w.heap.size 5 i0 _ 1 1 Tryz.underlying23 hi0 hz0 hz1 hz2 rfl (by omega) u5 l.length (Lib.byteCells l) (by rfl) (HOWN.out.alloc _) ⟨wc.heap.size, 0, none⟩ 2 2 [.int .u8 92, .int .u8 92] (by rfl) (by rfl) (World.news_of_block (cs := #[.int .u8 92, .int .u8 92]) (t := 5) (fr := (0, 0)) (heap_alloc_new wc _)) (by simp [Value.oneCell']) (by omega) (by unfold maxLen; omega) (by omega) (by simp; omega) (wc.heap.size + 1) (by simp) ?_; intro gg1 cap1 wx1 hown6 hgrow hat hlt6; have HO1 := Lib.hid hown6; have HG1 := Lib.hid hgrow; clear hown6 hgrow hat hlt6))
            go_meet
            exact .inl (es_end (l2 := [92, 92]) hl6 (by simp) HO1.out (HBEL.out.alloc (by omega) _) HG1.out (own_ge HOWN.out) (by simp; omega))
          by_cases h8 : c = 8
          · subst h8
            go_wp2_with (first | (at_builtin; refine wpList_append_lies _ (by rfl) _ _ _ (by rfl) w.heap.size 5 i0 _ 1 1 Tryz.underlying23 hi0 hz0 hz1 hz2 rfl (by omega) u5 l.length (Lib.byteCells l) (by rfl) (HOWN.out.alloc _) ⟨wc.heap.size, 0, none⟩ 2 2 [.int .u8 92, .int .u8 98] (by rfl) (by rfl) (World.news_of_block (cs := #[.int .u8 92, .int .u8 98]) (t := 5) (fr := (0, 0)) (heap_alloc_new wc _)) (by simp [Value.oneCell']) (by omega) (by unfold maxLen; omega) (by omega) (by simp; omega) (wc.heap.size + 1) (by simp) ?_; intro gg1 cap1 wx1 hown6 hgrow hat hlt6; have HO1 := Lib.hid hown6; have HG1 := Lib.hid hgrow; clear hown6 hgrow hat hlt6))
            go_meet
            exact .inl (es_end (l2 := [92, 98]) hl6 (by simp) HO1.out (HBEL.out.alloc (by omega) _) HG1.out (own_ge HOWN.out) (by simp; omega))
          by_cases h9 : c = 9
          · subst h9
            go_wp2_with (first | (at_builtin; refine wpList_append_lies _ (by rfl) _ _ _ (by rfl) w.heap.size 5 i0 _ 1 1 Tryz.underlying23 hi0 hz0 hz1 hz2 rfl (by omega) u5 l.length (Lib.byteCells l) (by rfl) (HOWN.out.alloc _) ⟨wc.heap.size, 0, none⟩ 2 2 [.int .u8 92, .int .u8 116] (by rfl) (by rfl) (World.news_of_block (cs := #[.int .u8 92, .int .u8 116]) (t := 5) (fr := (0, 0)) (heap_alloc_new wc _)) (by simp [Value.oneCell']) (by omega) (by unfold maxLen; omega) (by omega) (by simp; omega) (wc.heap.size + 1) (by simp) ?_; intro gg1 cap1 wx1 hown6 hgrow hat hlt6; have HO1 := Lib.hid hown6; have HG1 := Lib.hid hgrow; clear hown6 hgrow hat hlt6))
            go_meet
            exact .inl (es_end (l2 := [92, 116]) hl6 (by simp) HO1.out (HBEL.out.alloc (by omega) _) HG1.out (own_ge HOWN.out) (by simp; omega))
          by_cases h10 : c = 10
          · subst h10
            go_wp2_with (first | (at_builtin; refine wpList_append_lies _ (by rfl) _ _ _ (by rfl) w.heap.size 5 i0 _ 1 1 Tryz.underlying23 hi0 hz0 hz1 hz2 rfl (by omega) u5 l.length (Lib.byteCells l) (by rfl) (HOWN.out.alloc _) ⟨wc.heap.size, 0, none⟩ 2 2 [.int .u8 92, .int .u8 110] (by rfl) (by rfl) (World.news_of_block (cs := #[.int .u8 92, .int .u8 110]) (t := 5) (fr := (0, 0)) (heap_alloc_new wc _)) (by simp [Value.oneCell']) (by omega) (by unfold maxLen; omega) (by omega) (by simp; omega) (wc.heap.size + 1) (by simp) ?_; intro gg1 cap1 wx1 hown6 hgrow hat hlt6; have HO1 := Lib.hid hown6; have HG1 := Lib.hid hgrow; clear hown6 hgrow hat hlt6))
            go_meet
            exact .inl (es_end (l2 := [92, 110]) hl6 (by simp) HO1.out (HBEL.out.alloc (by omega) _) HG1.out (own_ge HOWN.out) (by simp; omega))
          by_cases h12 : c = 12
          · subst h12
            go_wp2_with (first | (at_builtin; refine wpList_append_lies _ (by rfl) _ _ _ (by rfl) w.heap.size 5 i0 _ 1 1 Tryz.underlying23 hi0 hz0 hz1 hz2 rfl (by omega) u5 l.length (Lib.byteCells l) (by rfl) (HOWN.out.alloc _) ⟨wc.heap.size, 0, none⟩ 2 2 [.int .u8 92, .int .u8 102] (by rfl) (by rfl) (World.news_of_block (cs := #[.int .u8 92, .int .u8 102]) (t := 5) (fr := (0, 0)) (heap_alloc_new wc _)) (by simp [Value.oneCell']) (by omega) (by unfold maxLen; omega) (by omega) (by simp; omega) (wc.heap.size + 1) (by simp) ?_; intro gg1 cap1 wx1 hown6 hgrow hat hlt6; have HO1 := Lib.hid hown6; have HG1 := Lib.hid hgrow; clear hown6 hgrow hat hlt6))
            go_meet
            exact .inl (es_end (l2 := [92, 102]) hl6 (by simp) HO1.out (HBEL.out.alloc (by omega) _) HG1.out (own_ge HOWN.out) (by simp; omega))
          by_cases h13 : c = 13
          · subst h13
            go_wp2_with (first | (at_builtin; refine wpList_append_lies _ (by rfl) _ _ _ (by rfl) w.heap.size 5 i0 _ 1 1 Tryz.underlying23 hi0 hz0 hz1 hz2 rfl (by omega) u5 l.length (Lib.byteCells l) (by rfl) (HOWN.out.alloc _) ⟨wc.heap.size, 0, none⟩ 2 2 [.int .u8 92, .int .u8 114] (by rfl) (by rfl) (World.news_of_block (cs := #[.int .u8 92, .int .u8 114]) (t := 5) (fr := (0, 0)) (heap_alloc_new wc _)) (by simp [Value.oneCell']) (by omega) (by unfold maxLen; omega) (by omega) (by simp; omega) (wc.heap.size + 1) (by simp) ?_; intro gg1 cap1 wx1 hown6 hgrow hat hlt6; have HO1 := Lib.hid hown6; have HG1 := Lib.hid hgrow; clear hown6 hgrow hat hlt6))
            go_meet
            exact .inl (es_end (l2 := [92, 114]) hl6 (by simp) HO1.out (HBEL.out.alloc (by omega) _) HG1.out (own_ge HOWN.out) (by simp; omega))
          have e34 : (c == 34) = false := beq_eq_false_iff_ne.2 h34
          have e92 : (c == 92) = false := beq_eq_false_iff_ne.2 h92
          have e8 : (c == 8) = false := beq_eq_false_iff_ne.2 h8
          have e9 : (c == 9) = false := beq_eq_false_iff_ne.2 h9
          have e10 : (c == 10) = false := beq_eq_false_iff_ne.2 h10
          have e12 : (c == 12) = false := beq_eq_false_iff_ne.2 h12
          have e13 : (c == 13) = false := beq_eq_false_iff_ne.2 h13
          clear h34 h92 h8 h9 h10 h12 h13
          by_cases h32 : c < 32
          · have h32d : decide (c < 32) = true := decide_eq_true h32
            obtain ⟨b, hb, hb256⟩ := u8_nat c
            have hsz4 : (⟨#[92, 117, 48, 48]⟩ : ByteArray).size = 4 := rfl
            go_wp2_with (first | (at_builtin; refine Lib.wpList_append_own_string _ rfl (.tmp 90) (.const (.string ⟨#[92, 117, 48, 48]⟩)) 23 9 rfl w.heap.size 5 i0 Tryz.underlying23 Tryz.underlying9 hi0 hz0 hz1 hz2 u5 l.length (Lib.byteCells l) rfl HOWN.out ⟨#[92, 117, 48, 48]⟩ rfl (by unfold maxLen; omega) (by omega) (by omega) ?_; intro v1 wx1 hown6 hgrow _; have HO1 := Lib.hid hown6; have HG1 := Lib.hid hgrow; clear hown6 hgrow) | (go_at_call 29; refine (extHex b hb256 _).mono ?_; rintro e2 w2 ⟨tx, rfl, htx, hb2⟩; have HO2 := Lib.hid (ownsRow_of HO1.out fun q hq => hb2.block q (HO1.out.lt q hq).2); have HB2 := Lib.hid ((below_grown HBEL.out HG1.out (own_ge HOWN.out) (by omega)).trans (hb2.mono (below_grown HBEL.out HG1.out (own_ge HOWN.out) (by omega)).size)); have hsz2 := HB2.out.size; clear hb2) | (at_builtin; refine Lib.wpList_append_own_string _ rfl (.tmp 92) (.tmp 95) 23 9 rfl w.heap.size 5 i0 Tryz.underlying23 Tryz.underlying9 hi0 hz0 hz1 hz2 v1 (l.length + (⟨#[92, 117, 48, 48]⟩ : ByteArray).size) (Lib.byteCells l ++ Lib.strCells ⟨#[92, 117, 48, 48]⟩) rfl HO2.out tx rfl (by unfold maxLen; omega) (by omega) (by omega) ?_; intro v3 wx3 hown6 hgrow _; have HO3 := Lib.hid hown6; have HG3 := Lib.hid hgrow; clear hown6 hgrow))
            go_meet
            exact .inl (es_two hl6 (by omega) HO3.out (below_grown HB2.out HG3.out (own_ge HO2.out) (by omega)))
          have h32d : decide (c < 32) = false := decide_eq_false h32
          by_cases hesc : esc = true ∧ (c = 60 ∨ c = 62 ∨ c = 38)
          · obtain ⟨rfl, hc3⟩ := hesc
            by_cases h60 : c = 60
            · have e60 : (c == 60) = true := by simp [h60]
              clear h32 h60
              obtain ⟨b, hb, hb256⟩ := u8_nat c
              have hsz4 : (⟨#[92, 117, 48, 48]⟩ : ByteArray).size = 4 := rfl
              go_wp2_with (first | (at_builtin; refine Lib.wpList_append_own_string _ rfl (.tmp 90) (.const (.string ⟨#[92, 117, 48, 48]⟩)) 23 9 rfl w.heap.size 5 i0 Tryz.underlying23 Tryz.underlying9 hi0 hz0 hz1 hz2 u5 l.length (Lib.byteCells l) rfl HOWN.out ⟨#[92, 117, 48, 48]⟩ rfl (by unfold maxLen; omega) (by omega) (by omega) ?_; intro v1 wx1 hown6 hgrow _; have HO1 := Lib.hid hown6; have HG1 := Lib.hid hgrow; clear hown6 hgrow) | (go_at_call 29; refine (extHex b hb256 _).mono ?_; rintro e2 w2 ⟨tx, rfl, htx, hb2⟩; have HO2 := Lib.hid (ownsRow_of HO1.out fun q hq => hb2.block q (HO1.out.lt q hq).2); have HB2 := Lib.hid ((below_grown HBEL.out HG1.out (own_ge HOWN.out) (by omega)).trans (hb2.mono (below_grown HBEL.out HG1.out (own_ge HOWN.out) (by omega)).size)); have hsz2 := HB2.out.size; clear hb2) | (at_builtin; refine Lib.wpList_append_own_string _ rfl (.tmp 92) (.tmp 95) 23 9 rfl w.heap.size 5 i0 Tryz.underlying23 Tryz.underlying9 hi0 hz0 hz1 hz2 v1 (l.length + (⟨#[92, 117, 48, 48]⟩ : ByteArray).size) (Lib.byteCells l ++ Lib.strCells ⟨#[92, 117, 48, 48]⟩) rfl HO2.out tx rfl (by unfold maxLen; omega) (by omega) (by omega) ?_; intro v3 wx3 hown6 hgrow _; have HO3 := Lib.hid hown6; have HG3 := Lib.hid hgrow; clear hown6 hgrow))
              go_meet
              exact .inl (es_two hl6 (by omega) HO3.out (below_grown HB2.out HG3.out (own_ge HO2.out) (by omega)))
            have e60 : (c == 60) = false := beq_eq_false_iff_ne.2 h60
            by_cases h62 : c = 62
            · have e62 : (c == 62) = true := by simp [h62]
              clear h32 h60 h62
              obtain ⟨b, hb, hb256⟩ := u8_nat c
              have hsz4 : (⟨#[92, 117, 48, 48]⟩ : ByteArray).size = 4 := rfl
              go_wp2_with (first | (at_builtin; refine Lib.wpList_append_own_string _ rfl (.tmp 90) (.const (.string ⟨#[92, 117, 48, 48]⟩)) 23 9 rfl w.heap.size 5 i0 Tryz.underlying23 Tryz.underlying9 hi0 hz0 hz1 hz2 u5 l.length (Lib.byteCells l) rfl HOWN.out ⟨#[92, 117, 48, 48]⟩ rfl (by unfold maxLen; omega) (by omega) (by omega) ?_; intro v1 wx1 hown6 hgrow _; have HO1 := Lib.hid hown6; have HG1 := Lib.hid hgrow; clear hown6 hgrow) | (go_at_call 29; refine (extHex b hb256 _).mono ?_; rintro e2 w2 ⟨tx, rfl, htx, hb2⟩; have HO2 := Lib.hid (ownsRow_of HO1.out fun q hq => hb2.block q (HO1.out.lt q hq).2); have HB2 := Lib.hid ((below_grown HBEL.out HG1.out (own_ge HOWN.out) (by omega)).trans (hb2.mono (below_grown HBEL.out HG1.out (own_ge HOWN.out) (by omega)).size)); have hsz2 := HB2.out.size; clear hb2) | (at_builtin; refine Lib.wpList_append_own_string _ rfl (.tmp 92) (.tmp 95) 23 9 rfl w.heap.size 5 i0 Tryz.underlying23 Tryz.underlying9 hi0 hz0 hz1 hz2 v1 (l.length + (⟨#[92, 117, 48, 48]⟩ : ByteArray).size) (Lib.byteCells l ++ Lib.strCells ⟨#[92, 117, 48, 48]⟩) rfl HO2.out tx rfl (by unfold maxLen; omega) (by omega) (by omega) ?_; intro v3 wx3 hown6 hgrow _; have HO3 := Lib.hid hown6; have HG3 := Lib.hid hgrow; clear hown6 hgrow))
              go_meet
              exact .inl (es_two hl6 (by omega) HO3.out (below_grown HB2.out HG3.out (own_ge HO2.out) (by omega)))
            have e62 : (c == 62) = false := beq_eq_false_iff_ne.2 h62
            have e38 : (c == 38) = true := by simp; omega
            clear h32 h60 h62
            obtain ⟨b, hb, hb256⟩ := u8_nat c
            have hsz4 : (⟨#[92, 117, 48, 48]⟩ : ByteArray).size = 4 := rfl
            go_wp2_with (first | (at_builtin; refine Lib.wpList_append_own_string _ rfl (.tmp 90) (.const (.string ⟨#[92, 117, 48, 48]⟩)) 23 9 rfl w.heap.size 5 i0 Tryz.underlying23 Tryz.underlying9 hi0 hz0 hz1 hz2 u5 l.length (Lib.byteCells l) rfl HOWN.out ⟨#[92, 117, 48, 48]⟩ rfl (by unfold maxLen; omega) (by omega) (by omega) ?_; intro v1 wx1 hown6 hgrow _; have HO1 := Lib.hid hown6; have HG1 := Lib.hid hgrow; clear hown6 hgrow) | (go_at_call 29; refine (extHex b hb256 _).mono ?_; rintro e2 w2 ⟨tx, rfl, htx, hb2⟩; have HO2 := Lib.hid (ownsRow_of HO1.out fun q hq => hb2.block q (HO1.out.lt q hq).2); have HB2 := Lib.hid ((below_grown HBEL.out HG1.out (own_ge HOWN.out) (by omega)).trans (hb2.mono (below_grown HBEL.out HG1.out (own_ge HOWN.out) (by omega)).size)); have hsz2 := HB2.out.size; clear hb2) | (at_builtin; refine Lib.wpList_append_own_string _ rfl (.tmp 92) (.tmp 95) 23 9 rfl w.heap.size 5 i0 Tryz.underlying23 Tryz.underlying9 hi0 hz0 hz1 hz2 v1 (l.length + (⟨#[92, 117, 48, 48]⟩ : ByteArray).size) (Lib.byteCells l ++ Lib.strCells ⟨#[92, 117, 48, 48]⟩) rfl HO2.out tx rfl (by unfold maxLen; omega) (by omega) (by omega) ?_; intro v3 wx3 hown6 hgrow _; have HO3 := Lib.hid hown6; have HG3 := Lib.hid hgrow; clear hown6 hgrow))
            go_meet
            exact .inl (es_two hl6 (by omega) HO3.out (below_grown HB2.out HG3.out (own_ge HO2.out) (by omega)))
          go_upto_region 12 with fail
          go_cut [72] (fun v wx => v = .bool false ∧ wc = wx)
          case first =>
            cases esc with
            | false =>
              go_wp2
              go_meet
              exact ⟨rfl, rfl⟩
            | true =>
              have e60 : (c == 60) = false := beq_eq_false_iff_ne.2 (fun h => hesc ⟨rfl, .inl h⟩)
              have e62 : (c == 62) = false := beq_eq_false_iff_ne.2 (fun h => hesc ⟨rfl, .inr (.inl h)⟩)
              have e38 : (c == 38) = false := beq_eq_false_iff_ne.2 (fun h => hesc ⟨rfl, .inr (.inr h)⟩)
              clear hesc h32
              go_wp2
              go_meet
              exact ⟨rfl, rfl⟩
          case rest =>
            obtain ⟨rfl, rfl⟩ := hcut
            clear hesc h32 h32d
            by_cases h8 : c = 8232
            · subst h8
              have hsz5 : (⟨#[92, 117, 50, 48, 50]⟩ : ByteArray).size = 5 := rfl
              have hs1 : (⟨#[56]⟩ : ByteArray).size = 1 := rfl
              go_wp2_with (first | (at_builtin; refine Lib.wpList_append_own_string _ rfl (.tmp 104) (.const (.string ⟨#[92, 117, 50, 48, 50]⟩)) 23 9 rfl w.heap.size 5 i0 Tryz.underlying23 Tryz.underlying9 hi0 hz0 hz1 hz2 u5 l.length (Lib.byteCells l) rfl HOWN.out ⟨#[92, 117, 50, 48, 50]⟩ rfl (by unfold maxLen; omega) (by omega) (by omega) ?_; intro v1 wx1 hown6 hgrow _; have HO1 := Lib.hid hown6; have HG1 := Lib.hid hgrow; clear hown6 hgrow) | (at_builtin; refine wpList_append_lies _ (by rfl) _ _ _ (by rfl) w.heap.size 5 i0 _ 1 1 Tryz.underlying23 hi0 hz0 hz1 hz2 rfl (by omega) v1 (l.length + (⟨#[92, 117, 50, 48, 50]⟩ : ByteArray).size) (Lib.byteCells l ++ Lib.strCells ⟨#[92, 117, 50, 48, 50]⟩) (by rfl) (HO1.out.alloc _) ⟨wx1.heap.size, 0, none⟩ 1 1 [.int .u8 56] (by rfl) (by rfl) (World.news_of_block (cs := #[.int .u8 56]) (t := 5) (fr := (0, 0)) (heap_alloc_new wx1 _)) (by simp [Value.oneCell']) (by omega) (by unfold maxLen; omega) (by omega) (by have := HG1.out.size; simp; omega) (wx1.heap.size + 1) (by simp) ?_; intro gg2 cap2 wx2 hown6 hgrow hat hlt6; have HO2 := Lib.hid hown6; have HG2 := Lib.hid hgrow; clear hown6 hgrow hat hlt6))
              go_meet
              have hbb := below_grown HBEL.out HG1.out (own_ge HOWN.out) (by omega)
              have hbs := hbb.size
              exact .inl (es_two (a := ⟨#[92, 117, 50, 48, 50]⟩) (b := ⟨#[56]⟩) hl6 (by omega) HO2.out (below_grown (hbb.alloc hbs _) HG2.out (own_ge HO1.out) (by simp; omega)))
            by_cases h9 : c = 8233
            · subst h9
              have hsz5 : (⟨#[92, 117, 50, 48, 50]⟩ : ByteArray).size = 5 := rfl
              have hs1 : (⟨#[57]⟩ : ByteArray).size = 1 := rfl
              go_wp2_with (first | (at_builtin; refine Lib.wpList_append_own_string _ rfl (.tmp 104) (.const (.string ⟨#[92, 117, 50, 48, 50]⟩)) 23 9 rfl w.heap.size 5 i0 Tryz.underlying23 Tryz.underlying9 hi0 hz0 hz1 hz2 u5 l.length (Lib.byteCells l) rfl HOWN.out ⟨#[92, 117, 50, 48, 50]⟩ rfl (by unfold maxLen; omega) (by omega) (by omega) ?_; intro v1 wx1 hown6 hgrow _; have HO1 := Lib.hid hown6; have HG1 := Lib.hid hgrow; clear hown6 hgrow) | (at_builtin; refine wpList_append_lies _ (by rfl) _ _ _ (by rfl) w.heap.size 5 i0 _ 1 1 Tryz.underlying23 hi0 hz0 hz1 hz2 rfl (by omega) v1 (l.length + (⟨#[92, 117, 50, 48, 50]⟩ : ByteArray).size) (Lib.byteCells l ++ Lib.strCells ⟨#[92, 117, 50, 48, 50]⟩) (by rfl) (HO1.out.alloc _) ⟨wx1.heap.size, 0, none⟩ 1 1 [.int .u8 57] (by rfl) (by rfl) (World.news_of_block (cs := #[.int .u8 57]) (t := 5) (fr := (0, 0)) (heap_alloc_new wx1 _)) (by simp [Value.oneCell']) (by omega) (by unfold maxLen; omega) (by omega) (by have := HG1.out.size; simp; omega) (wx1.heap.size + 1) (by simp) ?_; intro gg2 cap2 wx2 hown6 hgrow hat hlt6; have HO2 := Lib.hid hown6; have HG2 := Lib.hid hgrow; clear hown6 hgrow hat hlt6))
              go_meet
              have hbb := below_grown HBEL.out HG1.out (own_ge HOWN.out) (by omega)
              have hbs := hbb.size
              exact .inl (es_two (a := ⟨#[92, 117, 50, 48, 50]⟩) (b := ⟨#[57]⟩) hl6 (by omega) HO2.out (below_grown (hbb.alloc hbs _) HG2.out (own_ge HO1.out) (by simp; omega)))
            have e8 : (c == 8232) = false := beq_eq_false_iff_ne.2 h8
            have e9 : (c == 8233) = false := beq_eq_false_iff_ne.2 h9
            clear h8 h9
            obtain ⟨sub, hsub⟩ : ∃ sub, s.extract i (i + n) = sub := ⟨_, rfl⟩
            have hsn : sub.size = n := by rw [← hsub, ByteArray.size_extract]; omega
            have hsl : ∀ W, (Instr.slice 9 (.string s) (some (.int .i64 (i : Nat))) (some (.int .i64 ((i : Int) + (n : Nat)))) none).run Tryz.prog W = .ok (.string sub) W := fun W => by rw [← hsub, show ((i : Int) + (n : Nat)) = ((i + n : Nat) : Int) by omega]; exact run_sub s i (i + n) (by omega) h2 W
            clear hsub
            go_wp2_with (first | (at_builtin; refine Lib.wpList_append_own_string _ rfl (.tmp 27) (.tmp 33) 23 9 rfl w.heap.size 5 i0 Tryz.underlying23 Tryz.underlying9 hi0 hz0 hz1 hz2 u5 l.length (Lib.byteCells l) rfl HOWN.out sub rfl (by unfold maxLen; omega) (by omega) (by omega) ?_; intro v1 wx1 hown6 hgrow _; have HO1 := Lib.hid hown6; have HG1 := Lib.hid hgrow; clear hown6 hgrow))
            go_meet
            exact .inr (es_one hl6 (by omega) HO1.out (below_grown HBEL.out HG1.out (own_ge HOWN.out) (by omega)))
        case rest =>
          have HE3 := Lib.hid ((hcut.out.elim (fun h => h.mono (by omega)) (fun h => h.mono (by omega)) : Es w (1 + 6 * (i + n)) _ _))
          clear hcut HES HES2
          go_wp2
          go_roundg (s.size - (i + n))
          case measure => omega
          case rel => exact ⟨i + n, rfl, by omega, by simp, HE3.out⟩
    · obtain ⟨l, hl6, hown, hbel⟩ := HES.out
      have HOWN := Lib.hid hown
      have HBEL := Lib.hid hbel
      have hszw := hbel.size
      clear hown hbel HES
      go_wp2_with (first | (at_builtin; refine wpList_append_lies _ (by rfl) _ _ _ (by rfl) w.heap.size 5 i0 _ 1 1 Tryz.underlying23 hi0 hz0 hz1 hz2 rfl (by omega) u5 l.length (Lib.byteCells l) (by rfl) (HOWN.out.alloc _) ⟨wr.heap.size, 0, none⟩ 1 1 [.int .u8 34] (by rfl) (by rfl) (World.news_of_block (cs := #[.int .u8 34]) (t := 5) (fr := (0, 0)) (heap_alloc_new wr _)) (by simp [Value.oneCell']) (by omega) (by unfold maxLen; omega) (by omega) (by simp; omega) (wr.heap.size + 1) (by simp) ?_; intro gg1 cap1 wx1 hown6 hgrow hat hlt6; have hcv := es_conv hown6; have HG1 := Lib.hid hgrow; clear hown6 hgrow hat hlt6))
      go_ret
      exact ⟨_, rfl, by simp [ByteArray.size]; omega, below_grown (HBEL.out.alloc hszw _) HG1.out (own_ge HOWN.out) (by simp; omega)⟩

end Go.Proofs.YtpkfdbhpmhahaaaGreatDoor
