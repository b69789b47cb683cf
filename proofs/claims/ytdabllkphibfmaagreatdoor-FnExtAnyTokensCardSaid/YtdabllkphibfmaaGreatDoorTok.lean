/- nextToken, by its contract; numbers and words by contracts that are handed in. -/
import Derived.Test.YtdabllkphibfmaaGreatDoorStr
import Derived.Test.YtdabllkphibfmaaGreatDoorTokP
namespace Go.Proofs.YtdabllkphibfmaaGreatDoor
open Go Go.RowKit

/-- How a part of a scan ends. -/
def Sc.SubPost (s : Sc) (g : Option Nat) (w : World) (p0 : Nat) : SubEnd → Ending → World → Prop
  | .tok k v r, e, w' => ∃ b, e = .returned (.tuple #[.pointer (some ⟨b, 0, none⟩), .nilIface]) ∧ w.heap.size ≤ b ∧ w'.heap[b]? = some (.cells #[.int .u8 k, v.val, .int .i64 p0] 97 (0, 0)) ∧
      (∃ q p, s.T.drop q = r ∧ q ≤ s.T.length ∧ 0 < q ∧ s.St g q p w') ∧ Fr (s.S g) w w'
  | .err, e, w' => (∃ t y, e = .returned (.tuple #[.pointer none, .iface t y])) ∧ Fr (s.S g) w w'
  | .out, _, _ => True

/-- What was there in w0 is as it was. -/
structure Old (w0 w : World) : Prop where
  size : w0.heap.size ≤ w.heap.size
  block : ∀ k, k < w0.heap.size → w.heap[k]? = w0.heap[k]?

theorem Old.refl (w : World) : Old w w := ⟨Nat.le_refl _, fun _ _ => rfl⟩
theorem Old.fr {w0 w w' : World} {S : Nat → Prop} (h : Old w0 w) (hf : Fr S w w') (hS : ∀ k, S k → w0.heap.size ≤ k) : Old w0 w' :=
  ⟨Nat.le_trans h.size hf.size, fun k hk => (hf.block k (Nat.lt_of_lt_of_le hk h.size) (fun hs => by have := hS k hs; omega)).trans (h.block k hk)⟩
theorem Old.below {w0 w w' : World} {B : Nat} (h : Old w0 w) (hb : Below B w w') (hB : w0.heap.size ≤ B) : Old w0 w' :=
  ⟨Nat.le_trans h.size hb.size, fun k hk => (hb.block k (by omega)).trans (h.block k hk)⟩

/-- The contract of a part of a scan. -/
def Sc.SubC (s : Sc) (w0 : World) (fn : Nat) (num : UInt8 → List UInt8 → SubEnd) : Prop :=
  ∀ (g : Option Nat) (q0 : Nat) (w : World) (hq : q0 < s.T.length), Old w0 w → (∀ k, s.S g k → w0.heap.size ≤ k) → s.St g (q0 + 1) (q0 % 512 + 1) w → num (s.T[q0]'hq) (s.T.drop (q0 + 1)) ≠ .out →
    Calls Tryz.prog fn #[.pointer (some ⟨s.j, 0, none⟩), .int .u8 ((s.T[q0]'hq).toNat : Int)] w (s.SubPost g w (q0 % 512) (num (s.T[q0]'hq) (s.T.drop (q0 + 1))))

/-- What a call of nextToken gives. -/
def Sc.NextPost (s : Sc) (num lit : UInt8 → List UInt8 → SubEnd) (g : Option Nat) (w : World) : List UInt8 → Ending → World → Prop
  | [], e, w' => ∃ b, e = .returned (.tuple #[.pointer (some ⟨b, 0, none⟩), .nilIface]) ∧ w.heap.size ≤ b ∧ w'.heap[b]? = some (.cells #[.int .u8 12, .nilIface, .int .i64 0] 97 (0, 0)) ∧ Fr (s.S g) w w'
  | c :: r, e, w' =>
    match tokAt num lit c r with
    | .tok k v r' => ∃ b, e = .returned (.tuple #[.pointer (some ⟨b, 0, none⟩), .nilIface]) ∧ w.heap.size ≤ b ∧ w'.heap[b]? = some (.cells #[.int .u8 k, v.val, .int .i64 ((s.T.length - (r.length + 1)) % 512 : Nat)] 97 (0, 0)) ∧
        (∃ g' q p, s.T.drop q = r' ∧ q ≤ s.T.length ∧ s.St g' q p w' ∧ gOk g g' w) ∧ Fr (s.S g) w w'
    | .err => (∃ t y, e = .returned (.tuple #[.pointer none, .iface t y])) ∧ Fr (s.S g) w w'
    | .out => True

theorem gOk.frame {s : Sc} {g g' : Option Nat} {w w1 w2 : World} (h : gOk g g' w) (h1 : Fr (s.S g) w w1) (h2 : Fr (s.S g') w1 w2) : Fr (s.S g) w w2 := by
  refine h1.trans' h2 ?_
  rintro i hi (hi2 | hi2 | hi2)
  · exact .inl hi2
  · exact .inr (.inl hi2)
  · rcases h with rfl | ⟨_, x, rfl, hx⟩
    · exact .inr (.inr hi2)
    · injection hi2 with hi2; omega

/-- A string, as a part of a scan. -/
theorem Sc.St.strC {s : Sc} (hT : s.T.length ≤ 1000000) {g : Option Nat} {q0 : Nat} {w : World} (hq : q0 < s.T.length) (h : s.St g (q0 + 1) (q0 % 512 + 1) w) (hne : strSub (s.T.drop (q0 + 1)) ≠ .out) :
    Calls Tryz.prog 50 #[.pointer (some ⟨s.j, 0, none⟩)] w (s.SubPost g w (q0 % 512) (strSub (s.T.drop (q0 + 1)))) := by
  cases hE : strRun ((s.T.drop (q0 + 1)).length + 1) [] (s.T.drop (q0 + 1)) with
  | out => exact absurd (by simp only [strSub, hE]) hne
  | err =>
    refine (h.scanString hq hT .err _ hE (by simp)).mono ?_
    rintro e w' ⟨⟨a, rfl⟩, hf⟩
    simp only [strSub, hE]
    exact ⟨⟨_, _, rfl⟩, hf⟩
  | ok str r =>
    refine (h.scanString hq hT (.ok str r) _ hE (by simp)).mono ?_
    rintro e w' ⟨b, rfl, h1, h2, h3, h4⟩
    simp only [strSub, hE]
    exact ⟨b, rfl, h1, h2, h3, h4⟩

theorem isWsB (c : UInt8) (b : Bool) (hb : isBlank c = b) (w : World) : Calls Tryz.prog 48 #[.int .u8 (c.toNat : Int)] w fun e w' => e = .returned (.bool b) ∧ w = w' := by
  refine (isWs c.toNat w).mono ?_
  rintro e w' ⟨rfl, rfl⟩
  refine ⟨?_, rfl⟩
  rw [← hb]
  have key : ∀ k : UInt8, ((c.toNat : Int) == (k.toNat : Int)) = (c == k) := by
    intro k
    rw [Bool.eq_iff_iff, beq_iff_eq, beq_iff_eq]
    exact ⟨fun h => UInt8.toNat_inj.1 (by omega), fun h => by rw [h]⟩
  have k1 := key 32
  have k2 := key 9
  have k3 := key 13
  have k4 := key 10
  simp only [isBlank, ← k1, ← k2, ← k3, ← k4]
  rfl

theorem byte_ne' {c k : UInt8} (h : c ≠ k) : ((c.toNat : Int) == (k.toNat : Int)) = false := by
  simp only [beq_eq_false_iff_ne, ne_eq]
  intro he
  exact h (UInt8.toNat_inj.1 (by omega))

theorem isDigitB (c : UInt8) (b : Bool) (hb : (decide (48 ≤ c.toNat) && decide (c.toNat ≤ 57)) = b) (w : World) : Calls Tryz.prog 51 #[.int .u8 (c.toNat : Int)] w fun e w' => e = .returned (.bool b) ∧ w = w' := by
  refine (isDigit c.toNat w).mono ?_
  rintro e w' ⟨rfl, rfl⟩
  refine ⟨?_, rfl⟩
  rw [← hb]
  congr 2
  rw [Bool.eq_iff_iff]
  simp
  omega

theorem drop_blank {T : List UInt8} {i : Nat} (hi : i < T.length) (hb : isBlank (T[i]'hi) = true) : (T.drop i).dropWhile isBlank = (T.drop (i + 1)).dropWhile isBlank := by
  rw [List.drop_eq_getElem_cons hi, List.dropWhile_cons, if_pos hb]
theorem drop_token {T : List UInt8} {i : Nat} (hi : i < T.length) (hb : isBlank (T[i]'hi) = false) : (T.drop i).dropWhile isBlank = (T[i]'hi) :: T.drop (i + 1) := by
  rw [List.drop_eq_getElem_cons hi, List.dropWhile_cons, if_neg (by simp [hb])]

theorem SubPost_shape {s : Sc} {g : Option Nat} {w : World} {p0 : Nat} {E : SubEnd} {e : Ending} {w' : World} (hne : E ≠ .out) (h : s.SubPost g w p0 E e w') : ∃ x y, e = .returned (.tuple #[x, y]) := by
  cases E with
  | out => exact absurd rfl hne
  | err => obtain ⟨⟨t, y, rfl⟩, _⟩ := h; exact ⟨_, _, rfl⟩
  | tok k v r => obtain ⟨b, rfl, _⟩ := h; exact ⟨_, _, rfl⟩

theorem SubPost_next {s : Sc} {num lit : UInt8 → List UInt8 → SubEnd} {g g' : Option Nat} {w wr w' : World} {p0 : Nat} {E : SubEnd} {e : Ending} {c : UInt8} {r : List UInt8} (hg : gOk g g' w) (hf : Fr (s.S g) w wr) (hE : tokAt num lit c r = E)
    (hp : (s.T.length - (r.length + 1)) % 512 = p0) (h : s.SubPost g' wr p0 E e w') : s.NextPost num lit g w (c :: r) e w' := by
  subst hp
  cases E with
  | out => simp only [Sc.NextPost, hE]
  | err =>
    simp only [Sc.NextPost, hE]
    exact ⟨h.1, hg.frame hf h.2⟩
  | tok k v r' =>
    simp only [Sc.NextPost, hE]
    obtain ⟨b, h1, h2, h3, ⟨q, p, h4, h5, h6, h7⟩, h8⟩ := h
    exact ⟨b, h1, Nat.le_trans hf.size h2, h3, ⟨g', q, p, h4, h5, h7, hg⟩, hg.frame hf h8⟩

/-- At the head of the loop over blanks: the byte i of the text is read, and all from q on are blanks; or the text is at its end. -/
def Sc.Ws (s : Sc) (g : Option Nat) (w : World) (q : Nat) (m : Nat) (c e : Value) (wx : World) : Prop :=
  (∃ i, ∃ hi : i < s.T.length, m = s.T.length - i ∧ c = .int .u8 ((s.T[i]'hi).toNat : Int) ∧ e = .nilIface ∧ (s.T.drop q).dropWhile isBlank = (s.T.drop i).dropWhile isBlank ∧ ∃ g', s.St g' (i + 1) (i % 512 + 1) wx ∧ Fr (s.S g) w wx ∧ gOk g g' w) ∨
  (m = 0 ∧ c = .int .u8 0 ∧ e = EOFv s.ea ∧ (s.T.drop q).dropWhile isBlank = [] ∧ ∃ g', s.St g' s.T.length 0 wx ∧ Fr (s.S g) w wx ∧ gOk g g' w)

set_option maxRecDepth 1000000 in
set_option maxHeartbeats 4000000 in
theorem Sc.St.nextToken {s : Sc} {num lit : UInt8 → List UInt8 → SubEnd} (hT : s.T.length ≤ 1000000) {w0 : World} (hnum : s.SubC w0 52 num) (hlit : s.SubC w0 53 lit) {g : Option Nat} {q p : Nat} {w : World} (hold : Old w0 w) (hown : ∀ k, s.S g k → w0.heap.size ≤ k) (h : s.St g q p w) (hqn : q ≤ s.T.length) (hne : ∀ c r, (s.T.drop q).dropWhile isBlank = c :: r → tokAt num lit c r ≠ .out) :
    Calls Tryz.prog 35 #[.pointer (some ⟨s.j, 0, none⟩)] w (s.NextPost num lit g w ((s.T.drop q).dropWhile isBlank)) := by
  have H := Lib.hid h
  have HNE := Lib.hid hne
  have HNUM := Lib.hid hnum
  have HLIT := Lib.hid hlit
  have HOLD := Lib.hid (And.intro hold hown)
  clear hold hown
  have heof := h.eof
  clear h hnum hlit hne
  have hfirst : ∀ W : World, W = w → Calls Tryz.prog 47 #[.pointer (some ⟨s.j, 0, none⟩)] W fun e w' => ∃ c er m, e = .returned (.tuple #[c, er]) ∧ s.Ws g w q m c er w' := by
    rintro W rfl
    by_cases hq : q < s.T.length
    · refine (H.out.next hq).mono ?_
      rintro e w' ⟨rfl, g', h1, h2, h3⟩
      exact ⟨_, _, _, rfl, .inl ⟨q, hq, rfl, rfl, rfl, rfl, g', h1, h2, h3⟩⟩
    · obtain rfl : q = s.T.length := by omega
      refine (H.out.end_).mono ?_
      rintro e w' ⟨rfl, g', h1, h2, h3⟩
      exact ⟨_, _, _, rfl, .inr ⟨rfl, rfl, rfl, by rw [List.drop_length]; rfl, g', h1, h2, h3⟩⟩
  have HFI := Lib.hid hfirst
  clear hfirst
  go_enter Tryz.func35, Tryz.ntmps35
  go_wp2_with (first | (go_at_call 47; refine (HFI.out _ rfl).mono ?_; rintro e w1 ⟨c0, er0, m0, rfl, hW0⟩; have HW0 := Lib.hid hW0; clear hW0))
  go_loopg [4, 5] m0 (fun m c er wx => Aside (s.Ws g w q m c er wx))
  case atStart => exact HW0.out
  case round =>
    clear HW0
    rcases hrel.out with ⟨i, hi, rfl, rfl, rfl, hdw, g', h1, h2, h3⟩ | ⟨rfl, rfl, rfl, hdw, g', h1, h2, h3⟩
    · clear hrel
      have heof1 := h1.eof
      by_cases hb : isBlank (s.T[i]'hi) = true
      · have hnx : ∀ W : World, W = wr → Calls Tryz.prog 47 #[.pointer (some ⟨s.j, 0, none⟩)] W fun e w' => ∃ c er m, e = .returned (.tuple #[c, er]) ∧ m < s.T.length - i ∧ s.Ws g w q m c er w' := by
          rintro W rfl
          have hdw2 := hdw.trans (drop_blank hi hb)
          by_cases hq : i + 1 < s.T.length
          · refine (h1.next1 (by omega) hq).mono ?_
            rintro e w' ⟨rfl, h4, h5⟩
            exact ⟨_, _, _, rfl, by omega, .inl ⟨i + 1, hq, rfl, rfl, rfl, hdw2, g', h4, h3.frame h2 h5, h3⟩⟩
          · have hqe : i + 1 = s.T.length := by omega
            refine (h1.end1 (by omega) hqe).mono ?_
            rintro e w' ⟨rfl, h4, h5⟩
            exact ⟨_, _, 0, rfl, by omega, .inr ⟨rfl, rfl, rfl, by rw [hdw2, hqe, List.drop_length]; rfl, g', h4, h3.frame h2 h5, h3⟩⟩
        have HNX := Lib.hid hnx
        have HBL := Lib.hid hb
        clear hnx hb hdw h1 h2 h3
        go_wp2_with (first | (go_at_call 48; refine (isWsB _ true HBL.out _).mono ?_; rintro e w2 ⟨rfl, rfl⟩) | (go_at_call 47; refine (HNX.out _ rfl).mono ?_; rintro e w2 ⟨c1, er1, m1, rfl, hm1, hW1⟩; have HW1 := Lib.hid hW1; clear hW1))
        go_roundg m1
        case measure => exact hm1
        case rel => exact HW1.out
      · have hb : isBlank (s.T[i]'hi) = false := by simpa using hb
        have hdt := hdw.trans (drop_token hi hb)
        have hp0 : (s.T.length - ((s.T.drop (i + 1)).length + 1)) % 512 = i % 512 := by rw [List.length_drop]; congr 1; omega
        have hnt := HNE.out _ _ hdt
        have hol : Old w0 wr := HOLD.out.1.fr h2 HOLD.out.2
        have hog : ∀ k, s.S g' k → w0.heap.size ≤ k := by
          rintro k (hk | hk | hk)
          · exact HOLD.out.2 k (.inl hk)
          · exact HOLD.out.2 k (.inr (.inl hk))
          · rcases h3 with rfl | ⟨_, y, rfl, hy⟩
            · exact HOLD.out.2 k (.inr (.inr hk))
            · injection hk with hk
              subst hk
              exact Nat.le_trans HOLD.out.1.size hy
        have hnm := HNUM.out g' i wr hi hol hog h1
        have hlt := HLIT.out g' i wr hi hol hog h1
        clear hol hog
        obtain ⟨bv, ev, hj⟩ := h1.js
        obtain ⟨j0, j1, j2, j3, jf⟩ := cell4 hj
        generalize hcE : s.T[i]'hi = c at *
        obtain ⟨p1, hp1⟩ : ∃ p1, p1 = i % 512 := ⟨_, rfl⟩
        have hp2 : (p1 : Int) < 512 := by omega
        rw [← hp1] at j2
        have HP := Lib.hid (show (s.T.length - ((s.T.drop (i + 1)).length + 1)) % 512 = p1 by rw [hp0, hp1])
        have HNT := Lib.hid hnt
        have HD := Lib.hid hdt
        have HB := Lib.hid hb
        have H1 := Lib.hid h1
        have H2 := Lib.hid h2
        have H3 := Lib.hid h3
        have HP1 := Lib.hid hp1
        have HNM := Lib.hid hnm
        have HLT := Lib.hid hlt
        clear hj jf j0 j1 j3 hnt hdw hdt hb h1 h2 h3 hp1 hp0 hnm hlt hcE HNUM HLIT HNE
        by_cases c123 : c = 123
        · subst c123
          have hta : tokAt num lit 123 (s.T.drop (i + 1)) = .tok 0 (.byte 123) (s.T.drop (i + 1)) := by simp [tokAt]
          have HTA := Lib.hid hta
          clear hta HNT
          go_wp2_with (first | (go_at_call 48; refine (isWsB _ false HB.out _).mono ?_; rintro e w2 ⟨rfl, rfl⟩) | (go_at_call 49; refine (is_nil _ _).mono ?_; rintro e w2 ⟨rfl, rfl⟩))
          go_ret2
          rw [HD.out]
          simp only [Sc.NextPost, HTA.out]
          exact ⟨wr.heap.size, rfl, H2.out.size, (heap_alloc_new wr _).trans (by rw [HP.out]; rfl), ⟨g', i + 1, _, rfl, by omega, (H1.out.alloc _).1, H3.out⟩, H2.out.alloc _⟩
        by_cases c125 : c = 125
        · subst c125
          have hta : tokAt num lit 125 (s.T.drop (i + 1)) = .tok 1 (.byte 125) (s.T.drop (i + 1)) := by simp [tokAt]
          have HTA := Lib.hid hta
          clear hta HNT
          go_wp2_with (first | (go_at_call 48; refine (isWsB _ false HB.out _).mono ?_; rintro e w2 ⟨rfl, rfl⟩) | (go_at_call 49; refine (is_nil _ _).mono ?_; rintro e w2 ⟨rfl, rfl⟩))
          go_ret2
          rw [HD.out]
          simp only [Sc.NextPost, HTA.out]
          exact ⟨wr.heap.size, rfl, H2.out.size, (heap_alloc_new wr _).trans (by rw [HP.out]; rfl), ⟨g', i + 1, _, rfl, by omega, (H1.out.alloc _).1, H3.out⟩, H2.out.alloc _⟩
        by_cases c91 : c = 91
        · subst c91
          have hta : tokAt num lit 91 (s.T.drop (i + 1)) = .tok 2 (.byte 91) (s.T.drop (i + 1)) := by simp [tokAt]
          have HTA := Lib.hid hta
          clear hta HNT
          go_wp2_with (first | (go_at_call 48; refine (isWsB _ false HB.out _).mono ?_; rintro e w2 ⟨rfl, rfl⟩) | (go_at_call 49; refine (is_nil _ _).mono ?_; rintro e w2 ⟨rfl, rfl⟩))
          go_ret2
          rw [HD.out]
          simp only [Sc.NextPost, HTA.out]
          exact ⟨wr.heap.size, rfl, H2.out.size, (heap_alloc_new wr _).trans (by rw [HP.out]; rfl), ⟨g', i + 1, _, rfl, by omega, (H1.out.alloc _).1, H3.out⟩, H2.out.alloc _⟩
        by_cases c93 : c = 93
        · subst c93
          have hta : tokAt num lit 93 (s.T.drop (i + 1)) = .tok 3 (.byte 93) (s.T.drop (i + 1)) := by simp [tokAt]
          have HTA := Lib.hid hta
          clear hta HNT
          go_wp2_with (first | (go_at_call 48; refine (isWsB _ false HB.out _).mono ?_; rintro e w2 ⟨rfl, rfl⟩) | (go_at_call 49; refine (is_nil _ _).mono ?_; rintro e w2 ⟨rfl, rfl⟩))
          go_ret2
          rw [HD.out]
          simp only [Sc.NextPost, HTA.out]
          exact ⟨wr.heap.size, rfl, H2.out.size, (heap_alloc_new wr _).trans (by rw [HP.out]; rfl), ⟨g', i + 1, _, rfl, by omega, (H1.out.alloc _).1, H3.out⟩, H2.out.alloc _⟩
        by_cases c58 : c = 58
        · subst c58
          have hta : tokAt num lit 58 (s.T.drop (i + 1)) = .tok 4 (.byte 58) (s.T.drop (i + 1)) := by simp [tokAt]
          have HTA := Lib.hid hta
          clear hta HNT
          go_wp2_with (first | (go_at_call 48; refine (isWsB _ false HB.out _).mono ?_; rintro e w2 ⟨rfl, rfl⟩) | (go_at_call 49; refine (is_nil _ _).mono ?_; rintro e w2 ⟨rfl, rfl⟩))
          go_ret2
          rw [HD.out]
          simp only [Sc.NextPost, HTA.out]
          exact ⟨wr.heap.size, rfl, H2.out.size, (heap_alloc_new wr _).trans (by rw [HP.out]; rfl), ⟨g', i + 1, _, rfl, by omega, (H1.out.alloc _).1, H3.out⟩, H2.out.alloc _⟩
        by_cases c44 : c = 44
        · subst c44
          have hta : tokAt num lit 44 (s.T.drop (i + 1)) = .tok 5 (.byte 44) (s.T.drop (i + 1)) := by simp [tokAt]
          have HTA := Lib.hid hta
          clear hta HNT
          go_wp2_with (first | (go_at_call 48; refine (isWsB _ false HB.out _).mono ?_; rintro e w2 ⟨rfl, rfl⟩) | (go_at_call 49; refine (is_nil _ _).mono ?_; rintro e w2 ⟨rfl, rfl⟩))
          go_ret2
          rw [HD.out]
          simp only [Sc.NextPost, HTA.out]
          exact ⟨wr.heap.size, rfl, H2.out.size, (heap_alloc_new wr _).trans (by rw [HP.out]; rfl), ⟨g', i + 1, _, rfl, by omega, (H1.out.alloc _).1, H3.out⟩, H2.out.alloc _⟩
        have n123 : ((c.toNat : Int) == 123) = false := byte_ne' c123
        have n125 : ((c.toNat : Int) == 125) = false := byte_ne' c125
        have n91 : ((c.toNat : Int) == 91) = false := byte_ne' c91
        have n93 : ((c.toNat : Int) == 93) = false := byte_ne' c93
        have n58 : ((c.toNat : Int) == 58) = false := byte_ne' c58
        have n44 : ((c.toNat : Int) == 44) = false := byte_ne' c44
        have C := Lib.hid (And.intro c123 (And.intro c125 (And.intro c91 (And.intro c93 (And.intro c58 c44)))))
        clear c123 c125 c91 c93 c58 c44
        by_cases c34 : c = 34
        · subst c34
          have hta : tokAt num lit 34 (s.T.drop (i + 1)) = strSub (s.T.drop (i + 1)) := by simp [tokAt]
          have hne2 : strSub (s.T.drop (i + 1)) ≠ .out := by rw [← hta]; exact HNT.out
          have hc := H1.out.strC hT hi hne2
          rw [← HP1.out] at hc
          have HC := Lib.hid hc
          have HTA := Lib.hid hta
          have HN2 := Lib.hid hne2
          clear hta hc hne2 HNT
          go_wp2_with (first | (go_at_call 48; refine (isWsB _ false HB.out _).mono ?_; rintro e w2 ⟨rfl, rfl⟩) | (go_at_call 49; refine (is_nil _ _).mono ?_; rintro e w2 ⟨rfl, rfl⟩) | (go_at_call 50; refine (HC.out).mono ?_; rintro e w2 hsp; obtain ⟨x, y, rfl⟩ := SubPost_shape HN2.out hsp; have HSP := Lib.hid hsp; clear hsp))
          go_ret2
          rw [HD.out]
          exact SubPost_next H3.out H2.out HTA.out HP.out HSP.out
        have n34 : ((c.toNat : Int) == 34) = false := byte_ne' c34
        by_cases cnum : c = 45 ∨ (48 ≤ c.toNat ∧ c.toNat ≤ 57)
        · have hta : tokAt num lit c (s.T.drop (i + 1)) = num c (s.T.drop (i + 1)) := by
            obtain ⟨k1, k2, k3, k4, k5, k6⟩ := C.out
            simp [tokAt, k1, k2, k3, k4, k5, k6, c34, cnum]
          have hne2 : num c (s.T.drop (i + 1)) ≠ .out := by rw [← hta]; exact HNT.out
          have hc := HNM.out hne2
          rw [← HP1.out] at hc
          have HC := Lib.hid hc
          have HTA := Lib.hid hta
          have HN2 := Lib.hid hne2
          clear hta hc hne2 HNT c34
          have hdc := isDigitB c
          rcases cnum with rfl | ⟨cd1, cd2⟩
          · go_wp2_with (first | (go_at_call 48; refine (isWsB _ false HB.out _).mono ?_; rintro e w2 ⟨rfl, rfl⟩) | (go_at_call 49; refine (is_nil _ _).mono ?_; rintro e w2 ⟨rfl, rfl⟩) | (go_at_call 52; refine (HC.out).mono ?_; rintro e w2 hsp; obtain ⟨x, y, rfl⟩ := SubPost_shape HN2.out hsp; have HSP := Lib.hid hsp; clear hsp))
            go_ret2
            rw [HD.out]
            exact SubPost_next H3.out H2.out HTA.out HP.out HSP.out
          · have n45 : ((c.toNat : Int) == 45) = false := by simp only [beq_eq_false_iff_ne, ne_eq]; omega
            have HDC := Lib.hid (hdc true (by simp; omega))
            clear hdc
            go_wp2_with (first | (go_at_call 48; refine (isWsB _ false HB.out _).mono ?_; rintro e w2 ⟨rfl, rfl⟩) | (go_at_call 49; refine (is_nil _ _).mono ?_; rintro e w2 ⟨rfl, rfl⟩) | (go_at_call 51; refine (HDC.out _).mono ?_; rintro e w2 ⟨rfl, rfl⟩) | (go_at_call 52; refine (HC.out).mono ?_; rintro e w2 hsp; obtain ⟨x, y, rfl⟩ := SubPost_shape HN2.out hsp; have HSP := Lib.hid hsp; clear hsp))
            go_ret2
            rw [HD.out]
            exact SubPost_next H3.out H2.out HTA.out HP.out HSP.out
        have HDC := Lib.hid (isDigitB c false (by simp; omega))
        have n45 : ((c.toNat : Int) == 45) = false := byte_ne' fun h => cnum (.inl h)
        by_cases clit : c = 116 ∨ c = 102 ∨ c = 110
        · have hta : tokAt num lit c (s.T.drop (i + 1)) = lit c (s.T.drop (i + 1)) := by
            obtain ⟨k1, k2, k3, k4, k5, k6⟩ := C.out
            simp [tokAt, k1, k2, k3, k4, k5, k6, c34, cnum, clit]
          have hne2 : lit c (s.T.drop (i + 1)) ≠ .out := by rw [← hta]; exact HNT.out
          have hc := HLT.out hne2
          rw [← HP1.out] at hc
          have HC := Lib.hid hc
          have HTA := Lib.hid hta
          have HN2 := Lib.hid hne2
          clear hta hc hne2 HNT c34 cnum
          rcases clit with rfl | rfl | rfl
          all_goals
            go_wp2_with (first | (go_at_call 48; refine (isWsB _ false HB.out _).mono ?_; rintro e w2 ⟨rfl, rfl⟩) | (go_at_call 49; refine (is_nil _ _).mono ?_; rintro e w2 ⟨rfl, rfl⟩) | (go_at_call 51; refine (HDC.out _).mono ?_; rintro e w2 ⟨rfl, rfl⟩) | (go_at_call 53; refine (HC.out).mono ?_; rintro e w2 hsp; obtain ⟨x, y, rfl⟩ := SubPost_shape HN2.out hsp; have HSP := Lib.hid hsp; clear hsp))
            go_ret2
            rw [HD.out]
            exact SubPost_next H3.out H2.out HTA.out HP.out HSP.out
        · have hta : tokAt num lit c (s.T.drop (i + 1)) = .err := by
            obtain ⟨k1, k2, k3, k4, k5, k6⟩ := C.out
            simp [tokAt, k1, k2, k3, k4, k5, k6, c34, cnum, clit]
          have HTA := Lib.hid hta
          have n116 : ((c.toNat : Int) == 116) = false := byte_ne' (k := 116) fun h => clit (.inl h)
          have n102 : ((c.toNat : Int) == 102) = false := byte_ne' (k := 102) fun h => clit (.inr (.inl h))
          have n110 : ((c.toNat : Int) == 110) = false := byte_ne' (k := 110) fun h => clit (.inr (.inr h))
          clear hta HNT c34 cnum clit
          go_wp2_with (first | (go_at_call 48; refine (isWsB _ false HB.out _).mono ?_; rintro e w2 ⟨rfl, rfl⟩) | (go_at_call 49; refine (is_nil _ _).mono ?_; rintro e w2 ⟨rfl, rfl⟩) | (go_at_call 51; refine (HDC.out _).mono ?_; rintro e w2 ⟨rfl, rfl⟩) | (go_at_call 54; refine (errors_new _ _).mono ?_; rintro e w2 ⟨rfl, rfl⟩))
          go_ret2
          rw [HD.out]
          exact SubPost_next H3.out H2.out HTA.out HP.out (show s.SubPost g' wr p1 .err _ _ from ⟨⟨_, _, rfl⟩, (Fr.refl _ _).alloc _⟩)
    · clear hrel
      have heof1 := h1.eof
      have hb0 : isBlank 0 = false := by decide
      have H2 := Lib.hid h2
      have HD := Lib.hid hdw
      clear h1 h2 h3 hdw
      go_wp2_with (first | (go_at_call 48; refine (isWsB 0 false hb0 _).mono ?_; rintro e w2 ⟨rfl, rfl⟩) | (go_at_call 49; refine (is_same _ _).mono ?_; rintro e w2 ⟨rfl, rfl⟩))
      go_ret2
      rw [HD.out]
      exact ⟨wr.heap.size, rfl, H2.out.size, heap_alloc_new wr _, H2.out.alloc _⟩

end Go.Proofs.YtdabllkphibfmaaGreatDoor
