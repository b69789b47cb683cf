/- scanLiteral, by its contract. -/
import Derived.Test.YtdabllkphibfmaaGreatDoorByte
import Derived.Deep.DeepCutAuto
namespace Go.Proofs.YtdabllkphibfmaaGreatDoor
open Go Go.RowKit

theorem fill3 {T : List UInt8} {q : Nat} {a b d : UInt8} (g0 : T[q]? = some a) (g1 : T[q + 1]? = some b) (g2 : T[q + 2]? = some d) (c : UInt8) (x1 x2 x3 : Value) : fillA T q 1 #[.int .u8 (c.toNat : Int), x1, x2, x3] 3 = (Lib.byteCells [c, a, b, d]).toArray := by
  simp [fillA, g0, g1, g2, Lib.byteCells]

theorem readN3 (s : Sc) (g : Option Nat) (q p : Nat) {a b d : UInt8} (c : UInt8) (x1 x2 x3 : Value) (w : World) (h : s.St g q p w) (h0 : 0 < q) (hq : q + 3 ≤ s.T.length) (g0 : s.T[q]? = some a) (g1 : s.T[q + 1]? = some b) (g2 : s.T[q + 2]? = some d) (u : Nat)
    (hu : w.heap[u]? = some (.cells #[.int .u8 (c.toNat : Int), x1, x2, x3] 5 (0, 0))) (hfree : s.free g u) :
    Calls Tryz.prog 68 #[.pointer (some ⟨s.j, 0, none⟩), .slice (some ⟨u, 0, none⟩) 4 4, .int .i64 3, .int .i64 1] w fun e w' => e = .returned .nilIface ∧ (∃ p', s.St g (q + 3) p' w') ∧ w'.heap[u]? = some (.cells (Lib.byteCells [c, a, b, d]).toArray 5 (0, 0)) ∧ Fr (s.SU g u) w w' := by
  have h := readN_ok s g q p u 3 1 _ w h h0 hq hu rfl (by omega) hfree
  rw [fill3 g0 g1 g2 c x1 x2 x3] at h
  exact h

theorem drop_some {T : List UInt8} {i : Nat} {a : UInt8} (h : T[i]? = some a) : T.drop i = a :: T.drop (i + 1) := by
  obtain ⟨hi, h2⟩ := List.getElem?_eq_some_iff.1 h
  rw [List.drop_eq_getElem_cons hi, h2]

theorem bytesEqualB (a b : Addr) (ca cb : Nat) (xs ys : List UInt8) (r : Bool) (hr : decide (xs = ys) = r) (w : World) (ha : ∀ j (hj : j < xs.length), w.cell? (a.add j) = some (.int .u8 (xs[j].toNat : Int))) (hb : ∀ j (hj : j < ys.length), w.cell? (b.add j) = some (.int .u8 (ys[j].toNat : Int))) :
    Calls Tryz.prog 75 #[.slice (some a) xs.length ca, .slice (some b) ys.length cb] w fun e w' => e = .returned (.bool r) ∧ w = w' := by
  refine (bytesEqual a b ca cb xs ys w ha hb).mono ?_
  rintro e w' ⟨rfl, h⟩
  refine ⟨?_, h⟩
  rw [← hr, ByteArray.toList_eq, ByteArray.toList_eq, Bool.beq_eq_decide_eq]

/-- Four cells of a block. -/
theorem cells_four {w : World} {u : Nat} {l : List UInt8} {fr : Nat × Nat} (h : w.heap[u]? = some (.cells (Lib.byteCells l).toArray 5 fr)) : ∀ j (hj : j < l.length), w.cell? ((⟨u, 0, none⟩ : Addr).add j) = some (.int .u8 (l[j].toNat : Int)) := by
  intro j hj
  have e : (⟨u, 0, none⟩ : Addr).add j = ⟨u, j, none⟩ := by simp [Addr.add]; omega
  rw [e]
  simp [World.cell?, h, Lib.byteCells, hj]

/-- In the midst of a word: four bytes lie in the block u, the fifth is read. -/
structure Sc.Lit (s : Sc) (g : Option Nat) (w : World) (u q p : Nat) (x : UInt8) (eb : Bool) (l : List UInt8) (wx : World) : Prop where
  got : s.Got g q x eb p wx
  row : wx.heap[u]? = some (.cells (Lib.byteCells l).toArray 5 (0, 0))
  fr : Fr (s.S g) w wx

theorem Sc.Lit.alloc {s : Sc} {g : Option Nat} {w : World} {u q p : Nat} {x : UInt8} {eb : Bool} {l : List UInt8} {wx : World} (h : s.Lit g w u q p x eb l wx) (o : Obj) : s.Lit g w u q p x eb l (wx.alloc o) :=
  ⟨h.got.alloc o, (Below.heap_alloc _ _ _ (lt_of_heap h.row)).trans h.row, h.fr.alloc o⟩

/-- What a test leaves: its answer, and the state. -/
def LitCut (P : World → Prop) (b : Bool) (v : Value) (wx : World) : Prop := v = .bool b ∧ P wx

theorem tok_post {s : Sc} {g : Option Nat} {q q1 p k : Nat} {x : UInt8} {eb : Bool} {v : TV} {w wx : World} (hg : s.Got g q x eb p wx) (hf : Fr (s.S g) w wx) (h0 : 0 < q) (hq : q ≤ s.T.length) :
    s.SubPost g w q1 (.tok k v (s.T.drop q)) (.returned (.tuple #[.pointer (some ⟨wx.heap.size, 0, none⟩), .nilIface])) ((wx.setCell ⟨s.j, 2, none⟩ (.int .i64 ((p - 1 : Nat) : Int))).alloc (.cells #[.int .u8 k, v.val, .int .i64 q1] 97)) := by
  obtain ⟨p', hb⟩ := hg.back _ rfl
  have e1 : (wx.setCell ⟨s.j, 2, none⟩ (.int .i64 ((p - 1 : Nat) : Int))).heap.size = wx.heap.size := by simp [World.setCell]
  have hn := heap_alloc_new (wx.setCell ⟨s.j, 2, none⟩ (.int .i64 ((p - 1 : Nat) : Int))) (.cells #[.int .u8 k, v.val, .int .i64 q1] 97)
  rw [e1] at hn
  exact ⟨wx.heap.size, rfl, hf.size, hn, ⟨q, p', rfl, hq, h0, (hb.alloc _).1⟩, (hf.setCell (.inl (.inl rfl)) _).alloc _⟩

/-- What ends a word, of a byte or the end. -/
theorem got_rest {s : Sc} {g : Option Nat} {q p : Nat} {x : UInt8} {eb : Bool} {w : World} (h : s.Got g q x eb p w) : (eb = true ∧ s.T.drop q = [] ∧ x = 0) ∨ (eb = false ∧ s.T.drop q = x :: s.T.drop (q + 1)) := by
  rcases h with ⟨h1, ⟨hq, h2⟩, _, _⟩ | ⟨h1, h2, h3, _, _⟩
  · exact .inr ⟨h1, by rw [List.drop_eq_getElem_cons hq, h2]⟩
  · exact .inl ⟨h1, by rw [h2, List.drop_length], h3⟩

theorem wordEnd_ok {s : Sc} {g : Option Nat} {q p k : Nat} {v : TV} {x : UInt8} {eb : Bool} {w : World} (h : s.Got g q x eb p w) (ht : (isTerm x || eb) = true) : wordEnd k v (s.T.drop q) = .tok k v (s.T.drop q) := by
  rcases got_rest h with ⟨_, h1, _⟩ | ⟨rfl, h1⟩
  · rw [h1]; rfl
  · rw [h1]
    have : isTerm x = true := by simpa using ht
    simp [wordEnd, this]
theorem wordEnd_bad {s : Sc} {g : Option Nat} {q p k : Nat} {v : TV} {x : UInt8} {eb : Bool} {w : World} (h : s.Got g q x eb p w) (ht : (isTerm x || eb) = false) : wordEnd k v (s.T.drop q) = .err := by
  have ⟨h2, h3⟩ : isTerm x = false ∧ eb = false := by simpa using ht
  rcases got_rest h with ⟨h1, _, _⟩ | ⟨_, h1⟩
  · rw [h1] at h3; cases h3
  · rw [h1]; simp [wordEnd, h2]

/-- Is it this word? -/
def wordIs (k : List UInt8) (c a b d : UInt8) : Bool := decide (k = [c, a, b, d])

theorem wordIs_true {k : List UInt8} {c a b d : UInt8} (h : wordIs k c a b d = true) : [c, a, b, d] = k := (of_decide_eq_true h).symm
theorem wordIs_false {k : List UInt8} {c a b d : UInt8} (h : wordIs k c a b d = false) : ¬ [c, a, b, d] = k := fun e => of_decide_eq_false h e.symm

theorem lit_true {c a b d : UInt8} {r : List UInt8} (h : wordIs [116, 114, 117, 101] c a b d = true) : litRun c (a :: b :: d :: r) = wordEnd 10 (.bool true) r := by
  simp only [litRun]
  rw [if_pos (wordIs_true h)]
theorem lit_null {c a b d : UInt8} {r : List UInt8} (h : wordIs [110, 117, 108, 108] c a b d = true) : litRun c (a :: b :: d :: r) = wordEnd 11 .nul r := by
  simp only [litRun]
  rw [if_neg (by rw [wordIs_true h]; decide), if_pos (wordIs_true h)]
theorem lit_fals {c a b d : UInt8} {r : List UInt8} (h : wordIs [102, 97, 108, 115] c a b d = true) : litRun c (a :: b :: d :: 101 :: r) = wordEnd 10 (.bool false) r := by
  simp only [litRun]
  rw [if_neg (by rw [wordIs_true h]; decide), if_neg (by rw [wordIs_true h]; decide), if_pos (wordIs_true h)]
theorem lit_falx {c a b d : UInt8} {r : List UInt8} (h : wordIs [102, 97, 108, 115] c a b d = true) (hr : ∀ r', r ≠ 101 :: r') : litRun c (a :: b :: d :: r) = .err := by
  simp only [litRun]
  rw [if_neg (by rw [wordIs_true h]; decide), if_neg (by rw [wordIs_true h]; decide), if_pos (wordIs_true h)]
  first | done | (split; first | exact absurd rfl (hr _) | rfl)
theorem lit_none {c a b d : UInt8} {r : List UInt8} (h1 : wordIs [116, 114, 117, 101] c a b d = false) (h2 : wordIs [110, 117, 108, 108] c a b d = false) (h3 : wordIs [102, 97, 108, 115] c a b d = false) : litRun c (a :: b :: d :: r) = .err := by
  simp only [litRun]
  rw [if_neg (wordIs_false h1), if_neg (wordIs_false h2), if_neg (wordIs_false h3)]

theorem lit_bad {s : Sc} {g : Option Nat} {q p : Nat} {x : UInt8} {eb : Bool} {w : World} {c a b d : UInt8} (h : s.Got g q x eb p w) (bT : Bool) (hb : bT = (isTerm x || eb)) (h1 : (wordIs [116, 114, 117, 101] c a b d && bT) = false) (h2 : (wordIs [110, 117, 108, 108] c a b d && bT) = false) (h3 : wordIs [102, 97, 108, 115] c a b d = false) : litRun c (a :: b :: d :: s.T.drop q) = .err := by
  cases ht : wordIs [116, 114, 117, 101] c a b d with
  | true =>
    rw [ht] at h1
    rw [lit_true ht]
    exact wordEnd_bad h (by rw [← hb]; simpa using h1)
  | false =>
    cases hn : wordIs [110, 117, 108, 108] c a b d with
    | true =>
      rw [hn] at h2
      rw [lit_null hn]
      exact wordEnd_bad h (by rw [← hb]; simpa using h2)
    | false => exact lit_none ht hn h3

theorem Sc.Got.next {s : Sc} {g : Option Nat} {q p : Nat} {x : UInt8} {eb : Bool} {w : World} (h : s.Got g q x eb p w) (hx : x ≠ 0) : q < s.T.length ∧ s.St g (q + 1) p w ∧ s.T.drop q = x :: s.T.drop (q + 1) := by
  rcases h with ⟨_, ⟨hq, h2⟩, _, h4⟩ | ⟨_, _, h3, _⟩
  · exact ⟨hq, h4, by rw [List.drop_eq_getElem_cons hq, h2]⟩
  · exact absurd h3 hx

set_option maxRecDepth 1000000 in
set_option maxHeartbeats 8000000 in
theorem Sc.litC (s : Sc) (w0 : World) : s.SubC w0 53 litRun := by
  intro g q0 w hq _ _ h hne
  obtain ⟨bv, ev, hj⟩ := h.js
  obtain ⟨c0, c1, c2, c3, cf⟩ := cell4 hj
  have HL := Lib.hid h
  obtain ⟨q1, hq1⟩ : ∃ q1, q1 = q0 % 512 := ⟨_, rfl⟩
  rw [← hq1] at c2 h ⊢
  have hq1b : (q1 : Int) < 512 := by omega
  have hfree : s.free g w.heap.size := fun k hk => Nat.ne_of_lt (HL.out.lt k hk)
  have hst : ∀ o, s.St g (q0 + 1) (q0 % 512 + 1) (w.alloc o) := fun o => HL.out.of_heap fun k hk => Below.heap_alloc _ _ _ (HL.out.lt k hk)
  have hmk := makeRow4
  by_cases hlen : q0 + 4 ≤ s.T.length
  · obtain ⟨a, ha⟩ : ∃ a, s.T[q0 + 1]? = some a := ⟨_, List.getElem?_eq_getElem (by omega)⟩
    obtain ⟨b, hb⟩ : ∃ b, s.T[q0 + 2]? = some b := ⟨_, List.getElem?_eq_getElem (by omega)⟩
    obtain ⟨d, hd⟩ : ∃ d, s.T[q0 + 3]? = some d := ⟨_, List.getElem?_eq_getElem (by omega)⟩
    have hdr : s.T.drop (q0 + 1) = a :: b :: d :: s.T.drop (q0 + 4) := by
      rw [drop_some ha, drop_some hb, drop_some hd]
    rw [hdr] at hne ⊢
    obtain ⟨c, hc⟩ : ∃ c, c = s.T[q0]'hq := ⟨_, rfl⟩
    rw [← hc] at hne ⊢
    have hrd := fun o (x1 x2 x3 : Value) (hu : (w.alloc o).heap[w.heap.size]? = some (.cells #[.int .u8 (c.toNat : Int), x1, x2, x3] 5 (0, 0))) => readN3 s g (q0 + 1) _ c x1 x2 x3 (w.alloc o) (hst o) (by omega) (by omega) ha hb hd w.heap.size hu hfree
    have HRD := Lib.hid hrd
    have HC := Lib.hid hc
    have hnS : ¬ s.S g w.heap.size := fun hS => hfree _ (Sc.own_of_S hS) rfl
    clear hc hj hne h hst hrd hdr ha hb hd hq1
    have hcv := fun (W : World) (C : Array Value) => Lib.run_convert_bytes_const (P := Tryz.prog) W 31 5 C 4 4 Tryz.underlying31 Tryz.underlying5
    go_enter Tryz.func53, Tryz.ntmps53
    go_upto_region 8 with (first
      | (go_at_call 68; refine (HRD.out _ _ _ _ (heap_alloc_new _ _)).mono ?_; rintro e w1 ⟨rfl, ⟨p1, h4⟩, h5, h6⟩; have hn := h4.read (by omega) (by omega); have HN := Lib.hid hn; have H5 := Lib.hid h5; have H6 := Lib.hid h6; clear h4 h5 h6 hn)
      | (go_at_call 47; refine (HN.out).mono ?_; rintro e w2 ⟨x, eb, p2, rfl, h7, h8⟩; have H7 := Lib.hid h7; have H8 := Lib.hid h8; clear h7 h8))
    have hlit : s.Lit g w w.heap.size (q0 + 4) p2 x eb [c, a, b, d] w2 := ⟨H7.out, (H8.out.block _ (lt_of_heap H5.out) hnS).trans H5.out, (((Fr.refl _ w).alloc _).trans' H6.out (by
      rintro i hi (h | h)
      · exact h
      · omega)).trans H8.out⟩
    have HLIT := Lib.hid hlit
    clear hlit H7 H8 H5 H6 HN HRD hmk c2 cf c0 c1 c3
    obtain ⟨bT, hbT⟩ : ∃ bT, bT = (isTerm x || eb) := ⟨_, rfl⟩
    have HBT := Lib.hid hbT
    clear hbT
    have hp : p2 < 514 := HLIT.out.got.some_st.choose_spec.2
    have hp1 : (p2 : Int) < 514 := by omega
    go_cut [30] (fun v wx => LitCut (s.Lit g w w.heap.size (q0 + 4) p2 x eb [c, a, b, d]) (wordIs [116, 114, 117, 101] c a b d && bT) v wx)
    case first =>
      have heo := fun o => (HLIT.out.alloc o).got.cells.2.2
      cases hw : wordIs [116, 114, 117, 101] c a b d with
      | true =>
        have HE : Hid (decide ([116, 114, 117, 101] = [c, a, b, d]) = true) := Lib.hid hw
        cases ht : isTerm x with
        | true =>
          have hvt := fun W => isVT x W
          rw [ht] at hvt
          have HW := Lib.hid hw
          have HT := Lib.hid ht
          clear hw ht
          go_wp2_with (first
            | (go_at_call 75; refine Calls.mono (bytesEqualB ⟨w2.heap.size, 0, none⟩ ⟨w.heap.size, 0, none⟩ 4 4 [116, 114, 117, 101] [c, a, b, d] true HE.out _ (cells_four (heap_alloc_new _ _)) (cells_four (HLIT.out.alloc _).row)) ?_; rintro e w3 ⟨rfl, rfl⟩)
            | (go_at_call 76; refine (hvt _).mono ?_; rintro e w4 ⟨rfl, rfl⟩))
          go_meet
          exact ⟨by rw [HW.out, HBT.out, HT.out]; rfl, HLIT.out.alloc _⟩
        | false =>
          have hvt := fun W => isVT x W
          rw [ht] at hvt
          have HW := Lib.hid hw
          have HT := Lib.hid ht
          clear hw ht
          go_wp2_with (first
            | (go_at_call 75; refine Calls.mono (bytesEqualB ⟨w2.heap.size, 0, none⟩ ⟨w.heap.size, 0, none⟩ 4 4 [116, 114, 117, 101] [c, a, b, d] true HE.out _ (cells_four (heap_alloc_new _ _)) (cells_four (HLIT.out.alloc _).row)) ?_; rintro e w3 ⟨rfl, rfl⟩)
            | (go_at_call 76; refine (hvt _).mono ?_; rintro e w4 ⟨rfl, rfl⟩)
            | (go_at_call 49; refine (s.isEnd eb _).mono ?_; rintro e w4 ⟨rfl, rfl⟩))
          go_meet
          exact ⟨by rw [HW.out, HBT.out, HT.out]; rfl, HLIT.out.alloc _⟩
      | false =>
        have HE : Hid (decide ([116, 114, 117, 101] = [c, a, b, d]) = false) := Lib.hid hw
        have HW := Lib.hid hw
        clear hw
        go_wp2_with (first
          | (go_at_call 75; refine Calls.mono (bytesEqualB ⟨w2.heap.size, 0, none⟩ ⟨w.heap.size, 0, none⟩ 4 4 [116, 114, 117, 101] [c, a, b, d] false HE.out _ (cells_four (heap_alloc_new _ _)) (cells_four (HLIT.out.alloc _).row)) ?_; rintro e w3 ⟨rfl, rfl⟩))
        go_meet
        exact ⟨by rw [HW.out]; rfl, HLIT.out.alloc _⟩
    case rest =>
      obtain ⟨rfl, hlit⟩ := hcut
      obtain ⟨wA, rfl⟩ : ∃ wA, wA = wc := ⟨_, rfl⟩
      have HLIT1 := Lib.hid hlit
      clear hlit
      cases hb1 : (wordIs [116, 114, 117, 101] c a b d && bT) with
      | true =>
        obtain ⟨j2, jf, _⟩ := HLIT1.out.got.cells
        have hmx := fun W => max0' p2 hp W
        have hcb := fun W => conv_back (p2 - 1) (by omega) W
        have hct := conv_to
        have HB1 := Lib.hid hb1
        clear hb1 hcv
        go_wp2_with (first | (go_at_call 73; refine (hmx _).mono ?_; rintro e w5 ⟨rfl, rfl⟩))
        go_ret2
        have hbb := HB1.out
        simp only [Bool.and_eq_true] at hbb
        rw [lit_true hbb.1, wordEnd_ok HLIT1.out.got (by rw [← HBT.out]; exact hbb.2)]
        exact tok_post (k := 10) (v := .bool true) HLIT1.out.got HLIT1.out.fr (by omega) (by omega)
      | false =>
        have HBF1 := Lib.hid hb1
        clear hb1
        go_upto_region 11 with fail
        go_cut [59] (fun v wx => LitCut (s.Lit g w w.heap.size (q0 + 4) p2 x eb [c, a, b, d]) (wordIs [110, 117, 108, 108] c a b d && bT) v wx)
        case first =>
          have heo := fun o => (HLIT1.out.alloc o).got.cells.2.2
          cases hw : wordIs [110, 117, 108, 108] c a b d with
          | true =>
            have HE : Hid (decide ([110, 117, 108, 108] = [c, a, b, d]) = true) := Lib.hid hw
            cases ht : isTerm x with
            | true =>
              have hvt := fun W => isVT x W
              rw [ht] at hvt
              have HW := Lib.hid hw
              have HT := Lib.hid ht
              clear hw ht
              go_wp2_with (first
                | (go_at_call 75; refine Calls.mono (bytesEqualB ⟨wA.heap.size, 0, none⟩ ⟨w.heap.size, 0, none⟩ 4 4 [110, 117, 108, 108] [c, a, b, d] true HE.out _ (cells_four (heap_alloc_new _ _)) (cells_four (HLIT1.out.alloc _).row)) ?_; rintro e w3 ⟨rfl, rfl⟩)
                | (go_at_call 76; refine (hvt _).mono ?_; rintro e w4 ⟨rfl, rfl⟩))
              go_meet
              exact ⟨by rw [HW.out, HBT.out, HT.out]; rfl, HLIT1.out.alloc _⟩
            | false =>
              have hvt := fun W => isVT x W
              rw [ht] at hvt
              have HW := Lib.hid hw
              have HT := Lib.hid ht
              clear hw ht
              go_wp2_with (first
                | (go_at_call 75; refine Calls.mono (bytesEqualB ⟨wA.heap.size, 0, none⟩ ⟨w.heap.size, 0, none⟩ 4 4 [110, 117, 108, 108] [c, a, b, d] true HE.out _ (cells_four (heap_alloc_new _ _)) (cells_four (HLIT1.out.alloc _).row)) ?_; rintro e w3 ⟨rfl, rfl⟩)
                | (go_at_call 76; refine (hvt _).mono ?_; rintro e w4 ⟨rfl, rfl⟩)
                | (go_at_call 49; refine (s.isEnd eb _).mono ?_; rintro e w4 ⟨rfl, rfl⟩))
              go_meet
              exact ⟨by rw [HW.out, HBT.out, HT.out]; rfl, HLIT1.out.alloc _⟩
          | false =>
            have HE : Hid (decide ([110, 117, 108, 108] = [c, a, b, d]) = false) := Lib.hid hw
            have HW := Lib.hid hw
            clear hw
            go_wp2_with (first
              | (go_at_call 75; refine Calls.mono (bytesEqualB ⟨wA.heap.size, 0, none⟩ ⟨w.heap.size, 0, none⟩ 4 4 [110, 117, 108, 108] [c, a, b, d] false HE.out _ (cells_four (heap_alloc_new _ _)) (cells_four (HLIT1.out.alloc _).row)) ?_; rintro e w3 ⟨rfl, rfl⟩))
            go_meet
            exact ⟨by rw [HW.out]; rfl, HLIT1.out.alloc _⟩
        case rest =>
          obtain ⟨rfl, hlit⟩ := hcut
          obtain ⟨wB, rfl⟩ : ∃ wB, wB = wc := ⟨_, rfl⟩
          have HLIT2 := Lib.hid hlit
          clear hlit
          cases hb1 : (wordIs [110, 117, 108, 108] c a b d && bT) with
          | true =>
            obtain ⟨j2, jf, _⟩ := HLIT2.out.got.cells
            have hmx := fun W => max0' p2 hp W
            have hcb := fun W => conv_back (p2 - 1) (by omega) W
            have hct := conv_to
            have HB1 := Lib.hid hb1
            clear hb1 hcv
            go_wp2_with (first | (go_at_call 73; refine (hmx _).mono ?_; rintro e w5 ⟨rfl, rfl⟩))
            go_ret2
            have hbb := HB1.out
            simp only [Bool.and_eq_true] at hbb
            rw [lit_null hbb.1, wordEnd_ok HLIT2.out.got (by rw [← HBT.out]; exact hbb.2)]
            exact tok_post (k := 11) (v := .nul) HLIT2.out.got HLIT2.out.fr (by omega) (by omega)
          | false =>
            have HBF2 := Lib.hid hb1
            clear hb1
            cases hw : wordIs [102, 97, 108, 115] c a b d with
            | false =>
              have HE : Hid (decide ([102, 97, 108, 115] = [c, a, b, d]) = false) := Lib.hid hw
              have HW := Lib.hid hw
              clear hw
              go_wp2_with (first
                | (go_at_call 75; refine Calls.mono (bytesEqualB ⟨wB.heap.size, 0, none⟩ ⟨w.heap.size, 0, none⟩ 4 4 [102, 97, 108, 115] [c, a, b, d] false HE.out _ (cells_four (heap_alloc_new _ _)) (cells_four (HLIT2.out.alloc _).row)) ?_; rintro e w3 ⟨rfl, rfl⟩)
                | (go_at_call 54; refine (errors_new _ _).mono ?_; rintro e w5 ⟨rfl, rfl⟩))
              go_ret2
              rw [lit_bad HLIT2.out.got bT HBT.out HBF1.out HBF2.out HW.out]
              exact ⟨⟨_, _, rfl⟩, (HLIT2.out.fr.alloc _).alloc _⟩
            | true =>
              have HE : Hid (decide ([102, 97, 108, 115] = [c, a, b, d]) = true) := Lib.hid hw
              have HW := Lib.hid hw
              clear hw
              by_cases hx : x = 101
              · subst hx
                obtain ⟨hlt, hst5, hd5⟩ := HLIT2.out.got.next (by decide)
                have hrd := fun o => ((HLIT2.out.alloc o).got.next (by decide)).2.1.read (by omega) (by omega)
                have HRD5 := Lib.hid hrd
                have HD5 := Lib.hid hd5
                clear hst5 hrd hd5
                go_upto_region 17 with (first
                  | (go_at_call 75; refine Calls.mono (bytesEqualB ⟨wB.heap.size, 0, none⟩ ⟨w.heap.size, 0, none⟩ 4 4 [102, 97, 108, 115] [c, a, b, d] true HE.out _ (cells_four (heap_alloc_new _ _)) (cells_four (HLIT2.out.alloc _).row)) ?_; rintro e w3 ⟨rfl, rfl⟩)
                  | (go_at_call 47; refine (HRD5.out _).mono ?_; rintro e w5 ⟨x5, e5, p5, rfl, h7, h8⟩; have H7 := Lib.hid h7; have H8 := Lib.hid h8; clear h7 h8))
                have hp5 : p5 < 514 := H7.out.some_st.choose_spec.2
                have hp51 : (p5 : Int) < 514 := by omega
                have hfr5 : Fr (s.S g) w w5 := (HLIT2.out.fr.alloc _).trans H8.out
                have HFR5 := Lib.hid hfr5
                obtain ⟨j2, jf, heo⟩ := H7.out.cells
                have hvt := fun W => isVT x5 W
                have hmx := fun W => max0' p5 hp5 W
                have hcb := fun W => conv_back (p5 - 1) (by omega) W
                have hct := conv_to
                clear hcv hfr5
                cases ht : isTerm x5 with
                | true =>
                  rw [ht] at hvt
                  have HT := Lib.hid ht
                  clear ht
                  go_wp2_with (first
                    | (go_at_call 76; refine (hvt _).mono ?_; rintro e w6 ⟨rfl, rfl⟩)
                    | (go_at_call 73; refine (hmx _).mono ?_; rintro e w6 ⟨rfl, rfl⟩))
                  go_ret2
                  rw [HD5.out, lit_fals HW.out]
                  rw [wordEnd_ok H7.out (by rw [HT.out]; rfl)]
                  exact tok_post (k := 10) (v := .bool false) H7.out HFR5.out (by omega) (by omega)
                | false =>
                  rw [ht] at hvt
                  have HT := Lib.hid ht
                  clear ht
                  cases e5 with
                  | true =>
                    go_wp2_with (first
                      | (go_at_call 76; refine (hvt _).mono ?_; rintro e w6 ⟨rfl, rfl⟩)
                      | (go_at_call 49; refine (s.isEnd true _).mono ?_; rintro e w6 ⟨rfl, rfl⟩)
                      | (go_at_call 73; refine (hmx _).mono ?_; rintro e w6 ⟨rfl, rfl⟩))
                    go_ret2
                    rw [HD5.out, lit_fals HW.out]
                    rw [wordEnd_ok H7.out (by rw [HT.out]; rfl)]
                    exact tok_post (k := 10) (v := .bool false) H7.out HFR5.out (by omega) (by omega)
                  | false =>
                    go_wp2_with (first
                      | (go_at_call 76; refine (hvt _).mono ?_; rintro e w6 ⟨rfl, rfl⟩)
                      | (go_at_call 49; refine (s.isEnd false _).mono ?_; rintro e w6 ⟨rfl, rfl⟩)
                      | (go_at_call 54; refine (errors_new _ _).mono ?_; rintro e w6 ⟨rfl, rfl⟩))
                    go_ret2
                    rw [HD5.out, lit_fals HW.out]
                    rw [wordEnd_bad H7.out (by rw [HT.out]; rfl)]
                    exact ⟨⟨_, _, rfl⟩, HFR5.out.alloc _⟩
              · have n101 : ((x.toNat : Int) == 101) = false := byte_ne' hx
                have HX := Lib.hid hx
                clear hx
                go_wp2_with (first
                  | (go_at_call 75; refine Calls.mono (bytesEqualB ⟨wB.heap.size, 0, none⟩ ⟨w.heap.size, 0, none⟩ 4 4 [102, 97, 108, 115] [c, a, b, d] true HE.out _ (cells_four (heap_alloc_new _ _)) (cells_four (HLIT2.out.alloc _).row)) ?_; rintro e w3 ⟨rfl, rfl⟩)
                  | (go_at_call 54; refine (errors_new _ _).mono ?_; rintro e w5 ⟨rfl, rfl⟩))
                go_ret2
                rw [lit_falx HW.out (by
                  rintro r' hr
                  rcases got_rest HLIT2.out.got with ⟨_, h1, _⟩ | ⟨_, h1⟩
                  · rw [h1] at hr; cases hr
                  · rw [h1] at hr; injection hr with h _; exact HX.out h)]
                exact ⟨⟨_, _, rfl⟩, (HLIT2.out.fr.alloc _).alloc _⟩
  · have hrun : litRun (s.T[q0]'hq) (s.T.drop (q0 + 1)) = .err := by
      have hl : (s.T.drop (q0 + 1)).length < 3 := by rw [List.length_drop]; omega
      match hd : s.T.drop (q0 + 1), hl with
      | [], _ => rfl
      | [_], _ => rfl
      | [_, _], _ => rfl
    rw [hrun]
    have hsh := fun o (c : Array Value) (hu : (w.alloc o).heap[w.heap.size]? = some (.cells c 5 (0, 0))) (hc : c.size = 4) => readN_short s g (q0 + 1) _ w.heap.size 3 1 c (w.alloc o) (hst o) (by omega) (by omega) (by omega) hu hc (by omega) hfree
    have HSH := Lib.hid hsh
    clear hj hrun hne h hst hsh hq1
    go_enter Tryz.func53, Tryz.ntmps53
    go_wp2_with (first | (go_at_call 68; refine (HSH.out _ _ (heap_alloc_new _ _) rfl).mono ?_; rintro e w1 ⟨rfl, h4⟩; have H4 := Lib.hid h4; clear h4))
    go_ret2
    exact ⟨⟨_, _, rfl⟩, ((Fr.refl _ w).alloc _).trans' H4.out (by
      rintro i hi (h | h)
      · exact h
      · omega)⟩

end Go.Proofs.YtdabllkphibfmaaGreatDoor
