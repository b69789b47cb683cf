/- Tokens of JSON, byte by byte: plain functions; no program in sight. Numbers and words are parameters. -/
import Derived.Test.YtdabllkphibfmaaGreatDoorGc
import Derived.Test.YtdabllkphibfmaaGreatDoorGd
import Derived.Deep.AppendLies
namespace Go.Proofs.YtdabllkphibfmaaGreatDoor
open Go

/-- What a token bears. -/
inductive TV
  | byte (c : Nat) | i32 (v : Int) | i64 (v : Int) | f64 (b : Nat) | str (l : List UInt8) | bool (b : Bool) | nul

/-- As the value of an interface. -/
def TV.val : TV → Value
  | .byte c => .iface 5 (.int .u8 c)
  | .i32 v => .iface 21 (.int .i32 v)
  | .i64 v => .iface 2 (.int .i64 v)
  | .f64 b => .iface 62 (.float .f64 b)
  | .str l => .iface 9 (.string ⟨l.toArray⟩)
  | .bool b => .iface 4 (.bool b)
  | .nul => .nilIface

inductive SubEnd
  | err | out | tok (k : Nat) (v : TV) (r : List UInt8)

def isBlank (c : UInt8) : Bool := c == 32 || c == 9 || c == 13 || c == 10

def strSub (r : List UInt8) : SubEnd :=
  match strRun (r.length + 1) [] r with
  | .err => .err
  | .out => .out
  | .ok s r' => .tok 9 (.str s) r'

/-- The token that begins with c. -/
def tokAt (num lit : UInt8 → List UInt8 → SubEnd) (c : UInt8) (r : List UInt8) : SubEnd :=
  if c = 123 then .tok 0 (.byte 123) r
  else if c = 125 then .tok 1 (.byte 125) r
  else if c = 91 then .tok 2 (.byte 91) r
  else if c = 93 then .tok 3 (.byte 93) r
  else if c = 58 then .tok 4 (.byte 58) r
  else if c = 44 then .tok 5 (.byte 44) r
  else if c = 34 then strSub r
  else if c = 45 ∨ (48 ≤ c.toNat ∧ c.toNat ≤ 57) then num c r
  else if c = 116 ∨ c = 102 ∨ c = 110 then lit c r
  else .err

/-- The tokens of a text of n bytes, of which l is left; with their places in their 512 bytes; false: something is none. -/
def toks (num lit : UInt8 → List UInt8 → SubEnd) (n : Nat) : Nat → List UInt8 → Option (List (Nat × TV × Nat) × Bool)
  | 0, _ => none
  | f + 1, l =>
    match l.dropWhile isBlank with
    | [] => some ([], true)
    | c :: r =>
      match tokAt num lit c r with
      | .err => some ([], false)
      | .out => none
      | .tok k v r' => (toks num lit n f r').map fun x => ((k, v, (n - (r.length + 1)) % 512) :: x.1, x.2)

end Go.Proofs.YtdabllkphibfmaaGreatDoor

/- nextToken, by its contract; numbers and words by contracts that are handed in. -/
namespace Go.Proofs.YtdabllkphibfmaaGreatDoor
open Go Go.RowKit

/-- How a part of a scan ends. -/
def Sc.SubPost (s : Sc) (g : Option Nat) (w : World) (p0 : Nat) : SubEnd → Ending → World → Prop
  | .tok k v r, e, w' => ∃ b, e = .returned (.tuple #[.pointer (some ⟨b, 0, none⟩), .nilIface]) ∧ w.heap.size ≤ b ∧ w'.heap[b]? = some (.cells #[.int .u8 k, v.val, .int .i64 p0] 97 (0, 0)) ∧
      (∃ q p, s.T.drop q = r ∧ q ≤ s.T.length ∧ 0 < q ∧ s.St g q p w') ∧ Fr (s.S g) w w'
  | .err, e, w' => (∃ t y, e = .returned (.tuple #[.pointer none, .iface t y])) ∧ Fr (s.S g) w w'
  | .out, _, _ => True

/-- What was there in w0 is as it was. -/
structure Old (w0 w : World) : Prop where
  size : w0.heap.size ≤ w.heap.size
  block : ∀ k, k < w0.heap.size → w.heap[k]? = w0.heap[k]?

theorem Old.refl (w : World) : Old w w := ⟨Nat.le_refl _, fun _ _ => rfl⟩
theorem Old.fr {w0 w w' : World} {S : Nat → Prop} (h : Old w0 w) (hf : Fr S w w') (hS : ∀ k, S k → w0.heap.size ≤ k) : Old w0 w' :=
  ⟨Nat.le_trans h.size hf.size, fun k hk => (hf.block k (Nat.lt_of_lt_of_le hk h.size) (fun hs => by have := hS k hs; omega)).trans (h.block k hk)⟩
theorem Old.below {w0 w w' : World} {B : Nat} (h : Old w0 w) (hb : Below B w w') (hB : w0.heap.size ≤ B) : Old w0 w' :=
  ⟨Nat.le_trans h.size hb.size, fun k hk => (hb.block k (by omega)).trans (h.block k hk)⟩

/-- The contract of a part of a scan. -/
def Sc.SubC (s : Sc) (w0 : World) (fn : Nat) (num : UInt8 → List UInt8 → SubEnd) : Prop :=
  ∀ (g : Option Nat) (q0 : Nat) (w : World) (hq : q0 < s.T.length), Old w0 w → (∀ k, s.S g k → w0.heap.size ≤ k) → s.St g (q0 + 1) (q0 % 512 + 1) w → num (s.T[q0]'hq) (s.T.drop (q0 + 1)) ≠ .out →
    Calls Tryz.prog fn #[.pointer (some ⟨s.j, 0, none⟩), .int .u8 ((s.T[q0]'hq).toNat : Int)] w (s.SubPost g w (q0 % 512) (num (s.T[q0]'hq) (s.T.drop (q0 + 1))))

/-- What a call of nextToken gives. -/
def Sc.NextPost (s : Sc) (num lit : UInt8 → List UInt8 → SubEnd) (g : Option Nat) (w : World) : List UInt8 → Ending → World → Prop
  | [], e, w' => ∃ b, e = .returned (.tuple #[.pointer (some ⟨b, 0, none⟩), .nilIface]) ∧ w.heap.size ≤ b ∧ w'.heap[b]? = some (.cells #[.int .u8 12, .nilIface, .int .i64 0] 97 (0, 0)) ∧ Fr (s.S g) w w'
  | c :: r, e, w' =>
    match tokAt num lit c r with
    | .tok k v r' => ∃ b, e = .returned (.tuple #[.pointer (some ⟨b, 0, none⟩), .nilIface]) ∧ w.heap.size ≤ b ∧ w'.heap[b]? = some (.cells #[.int .u8 k, v.val, .int .i64 ((s.T.length - (r.length + 1)) % 512 : Nat)] 97 (0, 0)) ∧
        (∃ g' q p, s.T.drop q = r' ∧ q ≤ s.T.length ∧ s.St g' q p w' ∧ gOk g g' w) ∧ Fr (s.S g) w w'
    | .err => (∃ t y, e = .returned (.tuple #[.pointer none, .iface t y])) ∧ Fr (s.S g) w w'
    | .out => True

theorem gOk.frame {s : Sc} {g g' : Option Nat} {w w1 w2 : World} (h : gOk g g' w) (h1 : Fr (s.S g) w w1) (h2 : Fr (s.S g') w1 w2) : Fr (s.S g) w w2 := by
  refine h1.trans' h2 ?_
  rintro i hi (hi2 | hi2 | hi2)
  · exact .inl hi2
  · exact .inr (.inl hi2)
  · rcases h with rfl | ⟨_, x, rfl, hx⟩
    · exact .inr (.inr hi2)
    · injection hi2 with hi2; omega

/-- A string, as a part of a scan. -/
theorem Sc.St.strC {s : Sc} (hT : s.T.length ≤ 1000000) {g : Option Nat} {q0 : Nat} {w : World} (hq : q0 < s.T.length) (h : s.St g (q0 + 1) (q0 % 512 + 1) w) (hne : strSub (s.T.drop (q0 + 1)) ≠ .out) :
    Calls Tryz.prog 50 #[.pointer (some ⟨s.j, 0, none⟩)] w (s.SubPost g w (q0 % 512) (strSub (s.T.drop (q0 + 1)))) := by
  cases hE : strRun ((s.T.drop (q0 + 1)).length + 1) [] (s.T.drop (q0 + 1)) with
  | out => exact absurd (by simp only [strSub, hE]) hne
  | err =>
    refine (h.scanString hq hT .err _ hE (by simp)).mono ?_
    rintro e w' ⟨⟨a, rfl⟩, hf⟩
    simp only [strSub, hE]
    exact ⟨⟨_, _, rfl⟩, hf⟩
  | ok str r =>
    refine (h.scanString hq hT (.ok str r) _ hE (by simp)).mono ?_
    rintro e w' ⟨b, rfl, h1, h2, h3, h4⟩
    simp only [strSub, hE]
    exact ⟨b, rfl, h1, h2, h3, h4⟩

theorem isWsB (c : UInt8) (b : Bool) (hb : isBlank c = b) (w : World) : Calls Tryz.prog 48 #[.int .u8 (c.toNat : Int)] w fun e w' => e = .returned (.bool b) ∧ w = w' := by
  refine (isWs c.toNat w).mono ?_
  rintro e w' ⟨rfl, rfl⟩
  refine ⟨?_, rfl⟩
  rw [← hb]
  have key : ∀ k : UInt8, ((c.toNat : Int) == (k.toNat : Int)) = (c == k) := by
    intro k
    rw [Bool.eq_iff_iff, beq_iff_eq, beq_iff_eq]
    exact ⟨fun h => UInt8.toNat_inj.1 (by omega), fun h => by rw [h]⟩
  have k1 := key 32
  have k2 := key 9
  have k3 := key 13
  have k4 := key 10
  simp only [isBlank, ← k1, ← k2, ← k3, ← k4]
  rfl

theorem byte_ne' {c k : UInt8} (h : c ≠ k) : ((c.toNat : Int) == (k.toNat : Int)) = false := by
  simp only [beq_eq_false_iff_ne, ne_eq]
  intro he
  exact h (UInt8.toNat_inj.1 (by omega))

theorem isDigitB (c : UInt8) (b : Bool) (hb : (decide (48 ≤ c.toNat) && decide (c.toNat ≤ 57)) = b) (w : World) : Calls Tryz.prog 51 #[.int .u8 (c.toNat : Int)] w fun e w' => e = .returned (.bool b) ∧ w = w' := by
  refine (isDigit c.toNat w).mono ?_
  rintro e w' ⟨rfl, rfl⟩
  refine ⟨?_, rfl⟩
  rw [← hb]
  congr 2
  rw [Bool.eq_iff_iff]
  simp
  omega

theorem drop_blank {T : List UInt8} {i : Nat} (hi : i < T.length) (hb : isBlank (T[i]'hi) = true) : (T.drop i).dropWhile isBlank = (T.drop (i + 1)).dropWhile isBlank := by
  rw [List.drop_eq_getElem_cons hi, List.dropWhile_cons, if_pos hb]
theorem drop_token {T : List UInt8} {i : Nat} (hi : i < T.length) (hb : isBlank (T[i]'hi) = false) : (T.drop i).dropWhile isBlank = (T[i]'hi) :: T.drop (i + 1) := by
  rw [List.drop_eq_getElem_cons hi, List.dropWhile_cons, if_neg (by simp [hb])]

theorem SubPost_shape {s : Sc} {g : Option Nat} {w : World} {p0 : Nat} {E : SubEnd} {e : Ending} {w' : World} (hne : E ≠ .out) (h : s.SubPost g w p0 E e w') : ∃ x y, e = .returned (.tuple #[x, y]) := by
  cases E with
  | out => exact absurd rfl hne
  | err => obtain ⟨⟨t, y, rfl⟩, _⟩ := h; exact ⟨_, _, rfl⟩
  | tok k v r => obtain ⟨b, rfl, _⟩ := h; exact ⟨_, _, rfl⟩

theorem SubPost_next {s : Sc} {num lit : UInt8 → List UInt8 → SubEnd} {g g' : Option Nat} {w wr w' : World} {p0 : Nat} {E : SubEnd} {e : Ending} {c : UInt8} {r : List UInt8} (hg : gOk g g' w) (hf : Fr (s.S g) w wr) (hE : tokAt num lit c r = E)
    (hp : (s.T.length - (r.length + 1)) % 512 = p0) (h : s.SubPost g' wr p0 E e w') : s.NextPost num lit g w (c :: r) e w' := by
  subst hp
  cases E with
  | out => simp only [Sc.NextPost, hE]
  | err =>
    simp only [Sc.NextPost, hE]
    exact ⟨h.1, hg.frame hf h.2⟩
  | tok k v r' =>
    simp only [Sc.NextPost, hE]
    obtain ⟨b, h1, h2, h3, ⟨q, p, h4, h5, h6, h7⟩, h8⟩ := h
    exact ⟨b, h1, Nat.le_trans hf.size h2, h3, ⟨g', q, p, h4, h5, h7, hg⟩, hg.frame hf h8⟩

/-- At the head of the loop over blanks: the byte i of the text is read, and all from q on are blanks; or the text is at its end. -/
def Sc.Ws (s : Sc) (g : Option Nat) (w : World) (q : Nat) (m : Nat) (c e : Value) (wx : World) : Prop :=
  (∃ i, ∃ hi : i < s.T.length, m = s.T.length - i ∧ c = .int .u8 ((s.T[i]'hi).toNat : Int) ∧ e = .nilIface ∧ (s.T.drop q).dropWhile isBlank = (s.T.drop i).dropWhile isBlank ∧ ∃ g', s.St g' (i + 1) (i % 512 + 1) wx ∧ Fr (s.S g) w wx ∧ gOk g g' w) ∨
  (m = 0 ∧ c = .int .u8 0 ∧ e = EOFv s.ea ∧ (s.T.drop q).dropWhile isBlank = [] ∧ ∃ g', s.St g' s.T.length 0 wx ∧ Fr (s.S g) w wx ∧ gOk g g' w)

set_option maxRecDepth 1000000 in
set_option maxHeartbeats 4000000 in
theorem Sc.St.nextToken {s : Sc} {num lit : UInt8 → List UInt8 → SubEnd} (hT : s.T.length ≤ 1000000) {w0 : World} (hnum : s.SubC w0 52 num) (hlit : s.SubC w0 53 lit) {g : Option Nat} {q p : Nat} {w : World} (hold : Old w0 w) (hown : ∀ k, s.S g k → w0.heap.size ≤ k) (h : s.St g q p w) (hqn : q ≤ s.T.length) (hne : ∀ c r, (s.T.drop q).dropWhile isBlank = c :: r → tokAt num lit c r ≠ .out) :
    Calls Tryz.prog 35 #[.pointer (some ⟨s.j, 0, none⟩)] w (s.NextPost num lit g w ((s.T.drop q).dropWhile isBlank)) := by
  have H := Lib.hid h
  have HNE := Lib.hid hne
  have HNUM := Lib.hid hnum
  have HLIT := Lib.hid hlit
  have HOLD := Lib.hid (And.intro hold hown)
  clear hold hown
  have heof := h.eof
  clear h hnum hlit hne
  have hfirst : ∀ W : World, W = w → Calls Tryz.prog 47 #[.pointer (some ⟨s.j, 0, none⟩)] W fun e w' => ∃ c er m, e = .returned (.tuple #[c, er]) ∧ s.Ws g w q m c er w' := by
    rintro W rfl
    by_cases hq : q < s.T.length
    · refine (H.out.next hq).mono ?_
      rintro e w' ⟨rfl, g', h1, h2, h3⟩
      exact ⟨_, _, _, rfl, .inl ⟨q, hq, rfl, rfl, rfl, rfl, g', h1, h2, h3⟩⟩
    · obtain rfl : q = s.T.length := by omega
      refine (H.out.end_).mono ?_
      rintro e w' ⟨rfl, g', h1, h2, h3⟩
      exact ⟨_, _, _, rfl, .inr ⟨rfl, rfl, rfl, by rw [List.drop_length]; rfl, g', h1, h2, h3⟩⟩
  have HFI := Lib.hid hfirst
  clear hfirst
  go_enter Tryz.func35, Tryz.ntmps35
  go_wp2_with (first | (go_at_call 47; refine (HFI.out _ rfl).mono ?_; rintro e w1 ⟨c0, er0, m0, rfl, hW0⟩; have HW0 := Lib.hid hW0; clear hW0))
  go_loopg [4, 5] m0 (fun m c er wx => Aside (s.Ws g w q m c er wx))
  case atStart => exact HW0.out
  case round =>
    clear HW0
    rcases hrel.out with ⟨i, hi, rfl, rfl, rfl, hdw, g', h1, h2, h3⟩ | ⟨rfl, rfl, rfl, hdw, g', h1, h2, h3⟩
    · clear hrel
      have heof1 := h1.eof
      by_cases hb : isBlank (s.T[i]'hi) = true
      · have hnx : ∀ W : World, W = wr → Calls Tryz.prog 47 #[.pointer (some ⟨s.j, 0, none⟩)] W fun e w' => ∃ c er m, e = .returned (.tuple #[c, er]) ∧ m < s.T.length - i ∧ s.Ws g w q m c er w' := by
          rintro W rfl
          have hdw2 := hdw.trans (drop_blank hi hb)
          by_cases hq : i + 1 < s.T.length
          · refine (h1.next1 (by omega) hq).mono ?_
            rintro e w' ⟨rfl, h4, h5⟩
            exact ⟨_, _, _, rfl, by omega, .inl ⟨i + 1, hq, rfl, rfl, rfl, hdw2, g', h4, h3.frame h2 h5, h3⟩⟩
          · have hqe : i + 1 = s.T.length := by omega
            refine (h1.end1 (by omega) hqe).mono ?_
            rintro e w' ⟨rfl, h4, h5⟩
            exact ⟨_, _, 0, rfl, by omega, .inr ⟨rfl, rfl, rfl, by rw [hdw2, hqe, List.drop_length]; rfl, g', h4, h3.frame h2 h5, h3⟩⟩
        have HNX := Lib.hid hnx
        have HBL := Lib.hid hb
        clear hnx hb hdw h1 h2 h3
        go_wp2_with (first | (go_at_call 48; refine (isWsB _ true HBL.out _).mono ?_; rintro e w2 ⟨rfl, rfl⟩) | (go_at_call 47; refine (HNX.out _ rfl).mono ?_; rintro e w2 ⟨c1, er1, m1, rfl, hm1, hW1⟩; have HW1 := Lib.hid hW1; clear hW1))
        go_roundg m1
        case measure => exact hm1
        case rel => exact HW1.out
      · have hb : isBlank (s.T[i]'hi) = false := by simpa using hb
        have hdt := hdw.trans (drop_token hi hb)
        have hp0 : (s.T.length - ((s.T.drop (i + 1)).length + 1)) % 512 = i % 512 := by rw [List.length_drop]; congr 1; omega
        have hnt := HNE.out _ _ hdt
        have hol : Old w0 wr := HOLD.out.1.fr h2 HOLD.out.2
        have hog : ∀ k, s.S g' k → w0.heap.size ≤ k := by
          rintro k (hk | hk | hk)
          · exact HOLD.out.2 k (.inl hk)
          · exact HOLD.out.2 k (.inr (.inl hk))
          · rcases h3 with rfl | ⟨_, y, rfl, hy⟩
            · exact HOLD.out.2 k (.inr (.inr hk))
            · injection hk with hk
              subst hk
              exact Nat.le_trans HOLD.out.1.size hy
        have hnm := HNUM.out g' i wr hi hol hog h1
        have hlt := HLIT.out g' i wr hi hol hog h1
        clear hol hog
        obtain ⟨bv, ev, hj⟩ := h1.js
        obtain ⟨j0, j1, j2, j3, jf⟩ := cell4 hj
        generalize hcE : s.T[i]'hi = c at *
        obtain ⟨p1, hp1⟩ : ∃ p1, p1 = i % 512 := ⟨_, rfl⟩
        have hp2 : (p1 : Int) < 512 := by omega
        rw [← hp1] at j2
        have HP := Lib.hid (show (s.T.length - ((s.T.drop (i + 1)).length + 1)) % 512 = p1 by rw [hp0, hp1])
        have HNT := Lib.hid hnt
        have HD := Lib.hid hdt
        have HB := Lib.hid hb
        have H1 := Lib.hid h1
        have H2 := Lib.hid h2
        have H3 := Lib.hid h3
        have HP1 := Lib.hid hp1
        have HNM := Lib.hid hnm
        have HLT := Lib.hid hlt
        clear hj jf j0 j1 j3 hnt hdw hdt hb h1 h2 h3 hp1 hp0 hnm hlt hcE HNUM HLIT HNE
        by_cases c123 : c = 123
        · subst c123
          have hta : tokAt num lit 123 (s.T.drop (i + 1)) = .tok 0 (.byte 123) (s.T.drop (i + 1)) := by simp [tokAt]
          have HTA := Lib.hid hta
          clear hta HNT
          go_wp2_with (first | (go_at_call 48; refine (isWsB _ false HB.out _).mono ?_; rintro e w2 ⟨rfl, rfl⟩) | (go_at_call 49; refine (is_nil _ _).mono ?_; rintro e w2 ⟨rfl, rfl⟩))
          go_ret2
          rw [HD.out]
          simp only [Sc.NextPost, HTA.out]
          exact ⟨wr.heap.size, rfl, H2.out.size, (heap_alloc_new wr _).trans (by rw [HP.out]; rfl), ⟨g', i + 1, _, rfl, by omega, (H1.out.alloc _).1, H3.out⟩, H2.out.alloc _⟩
        by_cases c125 : c = 125
        · subst c125
          have hta : tokAt num lit 125 (s.T.drop (i + 1)) = .tok 1 (.byte 125) (s.T.drop (i + 1)) := by simp [tokAt]
          have HTA := Lib.hid hta
          clear hta HNT
          go_wp2_with (first | (go_at_call 48; refine (isWsB _ false HB.out _).mono ?_; rintro e w2 ⟨rfl, rfl⟩) | (go_at_call 49; refine (is_nil _ _).mono ?_; rintro e w2 ⟨rfl, rfl⟩))
          go_ret2
          rw [HD.out]
          simp only [Sc.NextPost, HTA.out]
          exact ⟨wr.heap.size, rfl, H2.out.size, (heap_alloc_new wr _).trans (by rw [HP.out]; rfl), ⟨g', i + 1, _, rfl, by omega, (H1.out.alloc _).1, H3.out⟩, H2.out.alloc _⟩
        by_cases c91 : c = 91
        · subst c91
          have hta : tokAt num lit 91 (s.T.drop (i + 1)) = .tok 2 (.byte 91) (s.T.drop (i + 1)) := by simp [tokAt]
          have HTA := Lib.hid hta
          clear hta HNT
          go_wp2_with (first | (go_at_call 48; refine (isWsB _ false HB.out _).mono ?_; rintro e w2 ⟨rfl, rfl⟩) | (go_at_call 49; refine (is_nil _ _).mono ?_; rintro e w2 ⟨rfl, rfl⟩))
          go_ret2
          rw [HD.out]
          simp only [Sc.NextPost, HTA.out]
          exact ⟨wr.heap.size, rfl, H2.out.size, (heap_alloc_new wr _).trans (by rw [HP.out]; rfl), ⟨g', i + 1, _, rfl, by omega, (H1.out.alloc _).1, H3.out⟩, H2.out.alloc _⟩
        by_cases c93 : c = 93
        · subst c93
          have hta : tokAt num lit 93 (s.T.drop (i + 1)) = .tok 3 (.byte 93) (s.T.drop (i + 1)) := by simp [tokAt]
          have HTA := Lib.hid hta
          clear hta HNT
          go_wp2_with (first | (go_at_call 48; refine (isWsB _ false HB.out _).mono ?_; rintro e w2 ⟨rfl, rfl⟩) | (go_at_call 49; refine (is_nil _ _).mono ?_; rintro e w2 ⟨rfl, rfl⟩))
          go_ret2
          rw [HD.out]
          simp only [Sc.NextPost, HTA.out]
          exact ⟨wr.heap.size, rfl, H2.out.size, (heap_alloc_new wr _).trans (by rw [HP.out]; rfl), ⟨g', i + 1, _, rfl, by omega, (H1.out.alloc _).1, H3.out⟩, H2.out.alloc _⟩
        by_cases c58 : c = 58
        · subst c58
          have hta : tokAt num lit 58 (s.T.drop (i + 1)) = .tok 4 (.byte 58) (s.T.drop (i + 1)) := by simp [tokAt]
          have HTA := Lib.hid hta
          clear hta HNT
          go_wp2_with (first | (go_at_call 48; refine (isWsB _ false HB.out _).mono ?_; rintro e w2 ⟨rfl, rfl⟩) | (go_at_call 49; refine (is_nil _ _).mono ?_; rintro e w2 ⟨rfl, rfl⟩))
          go_ret2
          rw [HD.out]
          simp only [Sc.NextPost, HTA.out]
          exact ⟨wr.heap.size, rfl, H2.out.size, (heap_alloc_new wr _).trans (by rw [HP.out]; rfl), ⟨g', i + 1, _, rfl, by omega, (H1.out.alloc _).1, H3.out⟩, H2.out.alloc _⟩
        by_cases c44 : c = 44
        · subst c44
          have hta : tokAt num lit 44 (s.T.drop (i + 1)) = .tok 5 (.byte 44) (s.T.drop (i + 1)) := by simp [tokAt]
          have HTA := Lib.hid hta
          clear hta HNT
          go_wp2_with (first | (go_at_call 48; refine (isWsB _ false HB.out _).mono ?_; rintro e w2 ⟨rfl, rfl⟩) | (go_at_call 49; refine (is_nil _ _).mono ?_; rintro e w2 ⟨rfl, rfl⟩))
          go_ret2
          rw [HD.out]
          simp only [Sc.NextPost, HTA.out]
          exact ⟨wr.heap.size, rfl, H2.out.size, (heap_alloc_new wr _).trans (by rw [HP.out]; rfl), ⟨g', i + 1, _, rfl, by omega, (H1.out.alloc _).1, H3.out⟩, H2.out.alloc _⟩
        have n123 : ((c.toNat : Int) == 123) = false := byte_ne' c123
        have n125 : ((c.toNat : Int) == 125) = false := byte_ne' c125
        have n91 : ((c.toNat : Int) == 91) = false := byte_ne' c91
        have n93 : ((c.toNat : Int) == 93) = false := byte_ne' c93
        have n58 : ((c.toNat : Int) == 58) = false := byte_ne' c58
        have n44 : ((c.toNat : Int) == 44) = false := byte_ne' c44
        have C := Lib.hid (And.intro c123 (And.intro c125 (And.intro c91 (And.intro c93 (And.intro c58 c44)))))
        clear c123 c125 c91 c93 c58 c44
        by_cases c34 : c = 34
        · subst c34
          have hta : tokAt num lit 34 (s.T.drop (i + 1)) = strSub (s.T.drop (i + 1)) := by simp [tokAt]
          have hne2 : strSub (s.T.drop (i + 1)) ≠ .out := by rw [← hta]; exact HNT.out
          have hc := H1.out.strC hT hi hne2
          rw [← HP1.out] at hc
          have HC := Lib.hid hc
          have HTA := Lib.hid hta
          have HN2 := Lib.hid hne2
          clear hta hc hne2 HNT
          go_wp2_with (first | (go_at_call 48; refine (isWsB _ false HB.out _).mono ?_; rintro e w2 ⟨rfl, rfl⟩) | (go_at_call 49; refine (is_nil _ _).mono ?_; rintro e w2 ⟨rfl, rfl⟩) | (go_at_call 50; refine (HC.out).mono ?_; rintro e w2 hsp; obtain ⟨x, y, rfl⟩ := SubPost_shape HN2.out hsp; have HSP := Lib.hid hsp; clear hsp))
          go_ret2
          rw [HD.out]
          exact SubPost_next H3.out H2.out HTA.out HP.out HSP.out
        have n34 : ((c.toNat : Int) == 34) = false := byte_ne' c34
        by_cases cnum : c = 45 ∨ (48 ≤ c.toNat ∧ c.toNat ≤ 57)
        · have hta : tokAt num lit c (s.T.drop (i + 1)) = num c (s.T.drop (i + 1)) := by
            obtain ⟨k1, k2, k3, k4, k5, k6⟩ := C.out
            simp [tokAt, k1, k2, k3, k4, k5, k6, c34, cnum]
          have hne2 : num c (s.T.drop (i + 1)) ≠ .out := by rw [← hta]; exact HNT.out
          have hc := HNM.out hne2
          rw [← HP1.out] at hc
          have HC := Lib.hid hc
          have HTA := Lib.hid hta
          have HN2 := Lib.hid hne2
          clear hta hc hne2 HNT c34
          have hdc := isDigitB c
          rcases cnum with rfl | ⟨cd1, cd2⟩
          · go_wp2_with (first | (go_at_call 48; refine (isWsB _ false HB.out _).mono ?_; rintro e w2 ⟨rfl, rfl⟩) | (go_at_call 49; refine (is_nil _ _).mono ?_; rintro e w2 ⟨rfl, rfl⟩) | (go_at_call 52; refine (HC.out).mono ?_; rintro e w2 hsp; obtain ⟨x, y, rfl⟩ := SubPost_shape HN2.out hsp; have HSP := Lib.hid hsp; clear hsp))
            go_ret2
            rw [HD.out]
            exact SubPost_next H3.out H2.out HTA.out HP.out HSP.out
          · have n45 : ((c.toNat : Int) == 45) = false := by simp only [beq_eq_false_iff_ne, ne_eq]; omega
            have HDC := Lib.hid (hdc true (by simp; omega))
            clear hdc
            go_wp2_with (first | (go_at_call 48; refine (isWsB _ false HB.out _).mono ?_; rintro e w2 ⟨rfl, rfl⟩) | (go_at_call 49; refine (is_nil _ _).mono ?_; rintro e w2 ⟨rfl, rfl⟩) | (go_at_call 51; refine (HDC.out _).mono ?_; rintro e w2 ⟨rfl, rfl⟩) | (go_at_call 52; refine (HC.out).mono ?_; rintro e w2 hsp; obtain ⟨x, y, rfl⟩ := SubPost_shape HN2.out hsp; have HSP := Lib.hid hsp; clear hsp))
            go_ret2
            rw [HD.out]
            exact SubPost_next H3.out H2.out HTA.out HP.out HSP.out
        have HDC := Lib.hid (isDigitB c false (by simp; omega))
        have n45 : ((c.toNat : Int) == 45) = false := byte_ne' fun h => cnum (.inl h)
        by_cases clit : c = 116 ∨ c = 102 ∨ c = 110
        · have hta : tokAt num lit c (s.T.drop (i + 1)) = lit c (s.T.drop (i + 1)) := by
            obtain ⟨k1, k2, k3, k4, k5, k6⟩ := C.out
            simp [tokAt, k1, k2, k3, k4, k5, k6, c34, cnum, clit]
          have hne2 : lit c (s.T.drop (i + 1)) ≠ .out := by rw [← hta]; exact HNT.out
          have hc := HLT.out hne2
          rw [← HP1.out] at hc
          have HC := Lib.hid hc
          have HTA := Lib.hid hta
          have HN2 := Lib.hid hne2
          clear hta hc hne2 HNT c34 cnum
          rcases clit with rfl | rfl | rfl
          all_goals
            go_wp2_with (first | (go_at_call 48; refine (isWsB _ false HB.out _).mono ?_; rintro e w2 ⟨rfl, rfl⟩) | (go_at_call 49; refine (is_nil _ _).mono ?_; rintro e w2 ⟨rfl, rfl⟩) | (go_at_call 51; refine (HDC.out _).mono ?_; rintro e w2 ⟨rfl, rfl⟩) | (go_at_call 53; refine (HC.out).mono ?_; rintro e w2 hsp; obtain ⟨x, y, rfl⟩ := SubPost_shape HN2.out hsp; have HSP := Lib.hid hsp; clear hsp))
            go_ret2
            rw [HD.out]
            exact SubPost_next H3.out H2.out HTA.out HP.out HSP.out
        · have hta : tokAt num lit c (s.T.drop (i + 1)) = .err := by
            obtain ⟨k1, k2, k3, k4, k5, k6⟩ := C.out
            simp [tokAt, k1, k2, k3, k4, k5, k6, c34, cnum, clit]
          have HTA := Lib.hid hta
          have n116 : ((c.toNat : Int) == 116) = false := byte_ne' (k := 116) fun h => clit (.inl h)
          have n102 : ((c.toNat : Int) == 102) = false := byte_ne' (k := 102) fun h => clit (.inr (.inl h))
          have n110 : ((c.toNat : Int) == 110) = false := byte_ne' (k := 110) fun h => clit (.inr (.inr h))
          clear hta HNT c34 cnum clit
          go_wp2_with (first | (go_at_call 48; refine (isWsB _ false HB.out _).mono ?_; rintro e w2 ⟨rfl, rfl⟩) | (go_at_call 49; refine (is_nil _ _).mono ?_; rintro e w2 ⟨rfl, rfl⟩) | (go_at_call 51; refine (HDC.out _).mono ?_; rintro e w2 ⟨rfl, rfl⟩) | (go_at_call 54; refine (errors_new _ _).mono ?_; rintro e w2 ⟨rfl, rfl⟩))
          go_ret2
          rw [HD.out]
          exact SubPost_next H3.out H2.out HTA.out HP.out (show s.SubPost g' wr p1 .err _ _ from ⟨⟨_, _, rfl⟩, (Fr.refl _ _).alloc _⟩)
    · clear hrel
      have heof1 := h1.eof
      have hb0 : isBlank 0 = false := by decide
      have H2 := Lib.hid h2
      have HD := Lib.hid hdw
      clear h1 h2 h3 hdw
      go_wp2_with (first | (go_at_call 48; refine (isWsB 0 false hb0 _).mono ?_; rintro e w2 ⟨rfl, rfl⟩) | (go_at_call 49; refine (is_same _ _).mono ?_; rintro e w2 ⟨rfl, rfl⟩))
      go_ret2
      rw [HD.out]
      exact ⟨wr.heap.size, rfl, H2.out.size, heap_alloc_new wr _, H2.out.alloc _⟩

end Go.Proofs.YtdabllkphibfmaaGreatDoor

/- ZzTokens, by its contract. -/
namespace Go.Proofs.YtdabllkphibfmaaGreatDoor
open Go Go.RowKit

theorem info61 : (Tryz.prog.info? 61).map (fun i => (i.zero, i.size, i.bytes)) = some (some (.agg #[.int .u8 0, .nilIface, .int .i64 0]), 3, 32) := by kernel_rfl

/-- A token, as its cells. -/
def tokCells (x : Nat × TV × Nat) : List Value := [.int .u8 x.1, x.2.1.val, .int .i64 x.2.2]

theorem TV.oneCell (v : TV) : v.val.oneCell' = true := by cases v <;> rfl

theorem TV.shape (v : TV) : v.val = .nilIface ∨ ∃ t y, v.val = .iface t y := by cases v <;> simp [TV.val]

theorem tokCells_oneCell (x : Nat × TV × Nat) : ∀ v ∈ tokCells x, v.oneCell' = true := by
  intro v hv
  simp only [tokCells, List.mem_cons, List.not_mem_nil, or_false] at hv
  rcases hv with rfl | rfl | rfl
  · rfl
  · exact TV.oneCell _
  · rfl

theorem newReader (ao : Option Addr) (n c : Nat) (w : World) : Calls Tryz.prog 34 #[.slice ao n c] w fun e w' => e = .returned (.pointer (some ⟨w.heap.size, 0, none⟩)) ∧ w.alloc (.cells #[.slice ao n c, .int .i64 0, .int .i64 (-1)] 116) = w' := by
  go_enter Tryz.func34, Tryz.ntmps34
  go_wp2
  go_ret
  exact ⟨rfl, rfl⟩

theorem ownBlock_at {w : World} {base e size n : Nat} {v : Value} {xs : List Value} (h : w.ownsRow base e size v n xs) : ∀ k, v.ownBlock = some k → base ≤ k ∧ ∃ cur, w.heap[k]? = some (.cells cur e (0, 0)) := by
  intro k hk
  rcases h.2 with ⟨rfl, _⟩ | ⟨g, cap, cur, rfl, hb, hh, _⟩
  · simp [Value.ownBlock] at hk
  · simp only [Value.ownBlock, Option.some.injEq] at hk
    subst hk
    exact ⟨hb, cur, hh⟩

theorem ownsRow_of {w w' : World} {base e size n : Nat} {v : Value} {xs : List Value} (h : w.ownsRow base e size v n xs) (hk : ∀ k, v.ownBlock = some k → w'.heap[k]? = w.heap[k]?) : w'.ownsRow base e size v n xs := by
  refine ⟨h.1, ?_⟩
  rcases h.2 with hn | ⟨g, cap, cur, rfl, hb, hh, hr⟩
  · exact .inl hn
  · exact .inr ⟨g, cap, cur, rfl, hb, (hk g rfl).trans hh, hr⟩

/-- A row of tokens is none of the scanner's blocks. -/
theorem Sc.St.row_apart {s : Sc} {g : Option Nat} {q p : Nat} {w : World} (h : s.St g q p w) {base n : Nat} {v : Value} {xs : List Value} (ho : w.ownsRow base 61 3 v n xs) (hb : 1 < base) {k : Nat} (hk : v.ownBlock = some k) : ∀ i, s.own g i → i ≠ k := by
  obtain ⟨hbk, cur, hc⟩ := ownBlock_at ho k hk
  obtain ⟨bv, ev, hj⟩ := h.js
  unfold Js at hj
  rintro i hi rfl
  rcases hi with rfl | rfl | rfl | rfl | hg
  · omega
  · obtain ⟨c, f, h1, _⟩ := h.row
    rw [hc] at h1; simp at h1
  · rw [hc] at hj; simp at hj
  · have hr : ∃ i, Rd w s.r s.t s.T.length s.tc i := by
      rcases h.at_ with ⟨_, _, _, d, _⟩ | ⟨x, a, m, _, _, _, _, _, _, _, _, k, _, _⟩ | ⟨x, _, _, _, c, _, d⟩
      · exact ⟨_, d⟩
      · exact ⟨_, k⟩
      · exact ⟨_, d⟩
    obtain ⟨i, pr, hr⟩ := hr
    rw [hc] at hr; simp at hr
  · have hb : ∃ bs, Buf w i bs := by
      rcases h.at_ with ⟨a, _⟩ | ⟨y, a, m, hy, _, _, _, _, _, _, _, _, _, n⟩ | ⟨y, hy, _, _, _, n, _⟩
      · rw [a] at hg; cases hg
      · obtain rfl : i = y := by rw [hy] at hg; injection hg
        exact ⟨_, n⟩
      · obtain rfl : i = y := by rw [hy] at hg; injection hg
        exact ⟨_, n⟩
    obtain ⟨bs, cur', h1, _⟩ := hb
    rw [hc] at h1; simp at h1

/-- The state between two tokens: f more rounds give rest. -/
structure Sc.Zs (s : Sc) (num lit : UInt8 → List UInt8 → SubEnd) (w : World) (ts : List (Nat × TV × Nat)) (ok : Bool) (f : Nat) (v : Value) (wx : World) : Prop where
  run : ∃ done rest q, q ≤ s.T.length ∧ ts = done ++ rest ∧ toks num lit s.T.length f (s.T.drop q) = some (rest, ok) ∧ (∃ g p, s.St g q p wx ∧ (∀ x, g = some x → w.heap.size ≤ x)) ∧ wx.ownsRow w.heap.size 61 3 v done.length (done.flatMap tokCells) ∧ Below w.heap.size w wx

/-- What ZzTokens gives. -/
def ZzPost (B : Nat) (w : World) (ts : List (Nat × TV × Nat)) (ok : Bool) (e : Ending) (w' : World) : Prop :=
  ∃ v ev, e = .returned (.tuple #[v, ev]) ∧ w'.ownsRow B 61 3 v ts.length (ts.flatMap tokCells) ∧ (if ok = true then ev = .nilIface else ∃ t y, ev = .iface t y) ∧ Below B w w'

set_option maxRecDepth 1000000 in
set_option maxHeartbeats 4000000 in
theorem zzTokens {num lit : UInt8 → List UInt8 → SubEnd} (T : List UInt8) (t tc : Nat) (ea : Addr) (w0 w : World) (hold : Old w0 w) (hrow : Row w t T) (heof : w.cell? ⟨1, 0, none⟩ = some (EOFv ea)) (hn : T.length ≤ tc) (hT : T.length ≤ 1000000)
    (hnum : (Sc.mk T t tc (w.heap.size + 1) w.heap.size ea).SubC w0 52 num) (hlit : (Sc.mk T t tc (w.heap.size + 1) w.heap.size ea).SubC w0 53 lit) (f : Nat) (ts : List (Nat × TV × Nat)) (ok : Bool) (hts : ts.length ≤ 1000000) (hk12 : ∀ x ∈ ts, x.1 < 12) (hrun : toks num lit T.length f T = some (ts, ok)) :
    Calls Tryz.prog 18 #[.slice (some ⟨t, 0, none⟩) T.length tc] w (ZzPost w.heap.size w ts ok) := by
  obtain ⟨i0, hi0, hz0, hz1, hz2⟩ := info_parts info61
  have hw1 : 1 < w.heap.size := World.block_lt_of_cell? w ⟨1, 0, none⟩ heof
  have htw : t < w.heap.size := by obtain ⟨c, fr, h1, _⟩ := hrow; exact lt_of_heap h1
  have HROW := Lib.hid hrow
  have HEOF := Lib.hid heof
  have HNUM := Lib.hid hnum
  have HLIT := Lib.hid hlit
  have HRUN := Lib.hid hrun
  have HOLD := Lib.hid hold
  clear hrow heof hnum hlit hrun hold
  go_enter Tryz.func18, Tryz.ntmps18
  go_wp2_with (first | (go_at_call 34; refine (newReader _ _ _ _).mono ?_; rintro e w1 ⟨rfl, rfl⟩))
  go_loopg [5] f (fun m v wx => Aside ((Sc.mk T t tc (w.heap.size + 1) w.heap.size ea).Zs num lit w ts ok m v wx))
  case atStart =>
    have hs1 : ∀ k, k < w.heap.size → ((w.alloc (.cells #[.slice (some ⟨t, 0, none⟩) T.length tc, .int .i64 0, .int .i64 (-1)] 116)).alloc (.cells #[.iface 86 (.pointer (some ⟨w.heap.size, 0, none⟩)), .slice none 0 0, .int .i64 0, .nilIface] 91)).heap[k]? = w.heap[k]? := by
      intro k hk
      rw [Below.heap_alloc _ _ _ (by simp; omega), Below.heap_alloc _ _ _ hk]
    refine ⟨[], ts, 0, Nat.zero_le _, rfl, by rw [List.drop_zero]; exact HRUN.out, ⟨none, 0, ⟨?_, ?_, hn, Nat.le_trans hT (by omega), ⟨?_, ?_, ?_⟩, .inl ⟨rfl, rfl, rfl, ?_, ?_⟩⟩, ?_⟩, World.ownsRow_nil _ _ _ _, ((Below.refl _ w).alloc (Nat.le_refl _) _).alloc (by simp) _⟩
    · exact HROW.out.of_heap (hs1 t htw)
    · exact (World.cell?_of_block (a := ⟨1, 0, none⟩) (hs1 1 hw1)).trans HEOF.out
    · show w.heap.size + 1 ≠ 1; omega
    · show w.heap.size ≠ 1; omega
    · rintro x hx; cases hx
    · exact ⟨-1, (Below.heap_alloc _ _ _ (by simp)).trans (heap_alloc_new w _)⟩
    · have := heap_alloc_new (w.alloc (.cells #[.slice (some ⟨t, 0, none⟩) T.length tc, .int .i64 0, .int .i64 (-1)] 116)) (.cells #[.iface 86 (.pointer (some ⟨w.heap.size, 0, none⟩)), .slice none 0 0, .int .i64 0, .nilIface] 91)
      simpa [Js] using this
    · rintro x hx; cases hx
  case round =>
    obtain ⟨s, hs⟩ : ∃ s, s = Sc.mk T t tc (w.heap.size + 1) w.heap.size ea := ⟨_, rfl⟩
    have hsj : s.j = w.heap.size + 1 := by rw [hs]
    have hsT : s.T = T := by rw [hs]
    have hsr : s.r = w.heap.size := by rw [hs]
    rw [← hs] at hrel HNUM HLIT
    obtain ⟨done, rest, q, hq, hts2, hrun, ⟨g, p, hst, hgb⟩, hown, hbel⟩ := hrel.out.run
    clear hrel
    obtain ⟨f', rfl⟩ : ∃ f', gk = f' + 1 := by
      cases gk with
      | zero => simp [toks] at hrun
      | succ f' => exact ⟨f', rfl⟩
    have hne : ∀ c r, (s.T.drop q).dropWhile isBlank = c :: r → tokAt num lit c r ≠ .out := by
      intro c r hcr ho
      simp [toks, hcr, ho] at hrun
    have hos := HOLD.out.size
    have hnx := hst.nextToken (by rw [hsT]; exact hT) HNUM.out HLIT.out (HOLD.out.below hbel hos) (by
      rintro k (h | h | h)
      · omega
      · omega
      · have := hgb k h.symm; omega) hq hne
    clear hos
    have hfrB : ∀ w', Fr (s.S g) wr w' → Below w.heap.size wr w' := fun w' h => h.below (by
      rintro k hk (h | h | h)
      · omega
      · omega
      · have := hgb k h.symm; omega) hbel.size
    cases hdw : (s.T.drop q).dropWhile isBlank with
    | nil =>
      have hr : rest = [] ∧ ok = true := by
        simp only [toks, hdw, Option.some.injEq, Prod.mk.injEq] at hrun
        exact ⟨hrun.1.symm, hrun.2.symm⟩
      obtain ⟨rfl, rfl⟩ := hr
      rw [hdw, hsj] at hnx
      have HNX := Lib.hid hnx
      have HTS := Lib.hid hts2
      have HOWN := Lib.hid hown
      have HB := Lib.hid hbel
      have HFB := Lib.hid hfrB
      have HST := Lib.hid hst
      clear hnx hts2 hown hbel hfrB hst hne hdw hrun hsj hsT hsr hs
      go_wp2_with (first | (go_at_call 35; refine (HNX.out).mono ?_; rintro e w1 ⟨b, rfl, hb1, hb2, hb3⟩; obtain ⟨k0, k1, k2, kf⟩ := cell3 hb2; have HB3 := Lib.hid hb3; clear hb1 hb2 hb3 kf))
      go_ret2
      refine ⟨_, _, rfl, ?_, by simp, HB.out.trans (HFB.out _ HB3.out)⟩
      rw [HTS.out, List.append_nil]
      exact ownsRow_of HOWN.out fun k hk => HB3.out.block k (lt_of_heap (ownBlock_at HOWN.out k hk).2.choose_spec) fun hS => HST.out.row_apart HOWN.out hw1 hk k (Sc.own_of_S hS) rfl
    | cons c r =>
      cases hta : tokAt num lit c r with
      | out => exact absurd hta (hne c r hdw)
      | err =>
        have hr : rest = [] ∧ ok = false := by
          simp only [toks, hdw, hta, Option.some.injEq, Prod.mk.injEq] at hrun
          exact ⟨hrun.1.symm, hrun.2.symm⟩
        obtain ⟨rfl, rfl⟩ := hr
        rw [hdw, hsj] at hnx
        have HTA := Lib.hid hta
        have HNX := Lib.hid hnx
        have HTS := Lib.hid hts2
        have HOWN := Lib.hid hown
        have HB := Lib.hid hbel
        have HFB := Lib.hid hfrB
        have HST := Lib.hid hst
        clear hnx hts2 hown hbel hfrB hst hne hdw hta hrun hsj hsT hsr hs
        go_wp2_with (first | (go_at_call 35; refine (HNX.out).mono ?_; rintro e w1 hnp; simp only [Sc.NextPost, HTA.out] at hnp; obtain ⟨⟨te, ye, rfl⟩, hb3⟩ := hnp; have HB3 := Lib.hid hb3; clear hb3))
        go_ret2
        refine ⟨_, _, rfl, ?_, by simp, HB.out.trans (HFB.out _ HB3.out)⟩
        rw [HTS.out, List.append_nil]
        exact ownsRow_of HOWN.out fun k hk => HB3.out.block k (lt_of_heap (ownBlock_at HOWN.out k hk).2.choose_spec) fun hS => HST.out.row_apart HOWN.out hw1 hk k (Sc.own_of_S hS) rfl
      | tok k v r' =>
        obtain ⟨rest', hrun', hre⟩ : ∃ rest', toks num lit s.T.length f' r' = some (rest', ok) ∧ rest = (k, v, (s.T.length - (r.length + 1)) % 512) :: rest' := by
          simp only [toks, hdw, hta, Option.map_eq_some_iff] at hrun
          obtain ⟨⟨x1, x2⟩, h1, h2⟩ := hrun
          simp only [Prod.mk.injEq] at h2
          obtain ⟨h3, rfl⟩ := h2
          exact ⟨x1, h1, h3.symm⟩
        have hk12' : k < 12 := hk12 (k, v, (s.T.length - (r.length + 1)) % 512) (by rw [hts2, hre]; simp)
        have hlen : done.length + 1 ≤ 1000000 := by
          have := congrArg List.length hts2
          rw [hre] at this
          simp at this
          omega
        have n12 : ((k : Int) == 12) = false := by simp only [beq_eq_false_iff_ne, ne_eq]; omega
        rw [hdw, hsj] at hnx
        have HTA := Lib.hid hta
        obtain ⟨pp, hpp⟩ : ∃ pp, pp = (s.T.length - (r.length + 1)) % 512 := ⟨_, rfl⟩
        rw [← hpp] at hre
        have HPP := Lib.hid hpp
        have HNX := Lib.hid hnx
        have HTS := Lib.hid hts2
        have HRE := Lib.hid hre
        have HRUN' := Lib.hid hrun'
        have HOWN := Lib.hid hown
        have HB := Lib.hid hbel
        have HFB := Lib.hid hfrB
        have HST := Lib.hid hst
        have HSJ := Lib.hid hsj
        have HSS := Lib.hid (And.intro hs (And.intro hsT hsr))
        clear hnx hts2 hown hbel hfrB hst hne hdw hta hrun hsj hsT hsr hs hre hrun' hpp
        obtain ⟨V, hV⟩ : ∃ V, V = v.val := ⟨_, rfl⟩
        have hVs : V = .nilIface ∨ ∃ t y, V = .iface t y := by rw [hV]; exact v.shape
        have HV := Lib.hid hV
        clear hV
        rcases hVs with rfl | ⟨vt, vy, rfl⟩
        · go_wp2_with (first | (go_at_call 35; refine (HNX.out).mono ?_; rintro e w1 hnp; simp only [Sc.NextPost, HTA.out] at hnp; obtain ⟨b, rfl, hb1, hb2, ⟨g', q', p', h4, h5, h6, h7⟩, hb3⟩ := hnp; rw [← HPP.out, ← HV.out] at hb2; obtain ⟨k0, k1, k2, kf⟩ := cell3 hb2; have HB1 := Lib.hid hb1; have HB2 := Lib.hid hb2; have HB3 := Lib.hid hb3; have H4 := Lib.hid h4; have H5 := Lib.hid h5; have H6 := Lib.hid h6; have H7 := Lib.hid h7; clear hb1 hb2 hb3 kf h4 h5 h6 h7))
          have hown1 : w1.ownsRow w.heap.size 61 3 u5 done.length (done.flatMap tokCells) := ownsRow_of HOWN.out fun k hk => HB3.out.block k (lt_of_heap (ownBlock_at HOWN.out k hk).2.choose_spec) fun hS => HST.out.row_apart HOWN.out hw1 hk k (Sc.own_of_S hS) rfl
          have hsz1 : w.heap.size ≤ w1.heap.size := Nat.le_trans HB.out.size HB3.out.size
          have hbn : ∀ k, u5.ownBlock = some k → k ≠ b := by
            rintro k hk rfl
            obtain ⟨_, cur, hc⟩ := ownBlock_at hown1 k hk
            rw [HB2.out] at hc; simp at hc
          have hblt : b < w1.heap.size := lt_of_heap HB2.out
          have HOWN1 := Lib.hid hown1
          have HBN := Lib.hid hbn
          clear hown1 hbn
          go_region_held3 (fun w' => w'.cell? ⟨b, 0, none⟩ = some (.int .u8 k) ∧ w'.cell? ⟨b, 1, none⟩ = some .nilIface ∧ w'.cell? ⟨b, 2, none⟩ = some (.int .i64 pp))
            (first
              | go_keep
              | (go_split_ands
                 refine ⟨?_, ?_, ?_⟩
                 · (rw [hgrow.cell_far _ (by simp; omega) (fun hk => HBN.out _ hk.symm rfl)]; assumption)
                 · (rw [hgrow.cell_far _ (by simp; omega) (fun hk => HBN.out _ hk.symm rfl)]; assumption)
                 · (rw [hgrow.cell_far _ (by simp; omega) (fun hk => HBN.out _ hk.symm rfl)]; assumption)))
            ((refine step_append_lies _ (by rfl) _ _ _ (by rfl) w.heap.size 61 i0 _ 3 32 Tryz.underlying55 hi0 hz0 hz1 hz2 rfl (by omega) u5 done.length (done.flatMap tokCells) (by rfl) ((HOWN1.out.alloc _).drew)
                ⟨w1.heap.size, 0, none⟩ 1 1 [.int .u8 k, .nilIface, .int .i64 pp] (by rfl) (by rfl) (World.news_of_block (cs := #[.int .u8 k, .nilIface, .int .i64 pp]) (t := 61) (fr := (0, 0)) (heap_alloc_new w1 _)) (by simp [Value.oneCell'])
                (by omega) (by unfold maxLen; omega) (by omega) (by simp; omega) (w1.heap.size + 1) (by simp) ?_; intro gg cap w3 hown3 hgrow hat hlt))
          have hown4 : w3.ownsRow w.heap.size 61 3 (.slice (some ⟨gg, 0, none⟩) (done.length + 1) cap) (done ++ [(k, v, pp)]).length ((done ++ [(k, v, pp)]).flatMap tokCells) := by
            rw [List.flatMap_append, List.length_append]
            have e : [(k, v, pp)].flatMap tokCells = [.int .u8 k, .nilIface, .int .i64 pp] := by simp [tokCells, HV.out]
            rw [e]
            exact hown3
          have hst3 : ∀ i, s.own g' i → w3.heap[i]? = w1.heap[i]? := fun i hi => (hgrow.block i (by have := H6.out.lt i hi; simp; omega) (fun hk => H6.out.row_apart HOWN1.out hw1 hk.symm i hi rfl)).trans (Below.heap_alloc w1 _ i (H6.out.lt i hi))
          have hbel3 : Below w.heap.size w w3 := ((((HB.out.trans (HFB.out _ HB3.out)).alloc hsz1 _).drew).grown hgrow (by simp; omega) (by
            intro k hk
            exact (ownBlock_at HOWN1.out k hk).1))
          have hgb3 : ∀ x, g' = some x → w.heap.size ≤ x := by
            rcases H7.out with rfl | ⟨_, y, rfl, hy⟩
            · exact hgb
            · rintro x hx; injection hx with hx; have := HB.out.size; omega
          have H8 := Lib.hid hown4
          have H9 := Lib.hid hst3
          have H10 := Lib.hid hbel3
          clear hown4 hst3 hbel3 hown3 hgrow hat
          go_wp2
          go_roundg f'
          case measure => omega
          case rel =>
            have e := HSS.out.1
            rw [← e]
            refine ⟨done ++ [(k, v, pp)], rest', q', H5.out, ?_, ?_, ⟨g', p', H6.out.of_heap H9.out, hgb3⟩, H8.out, H10.out⟩
            · rw [HTS.out, HRE.out]; simp
            · rw [H4.out]; exact HRUN'.out
        · go_wp2_with (first | (go_at_call 35; refine (HNX.out).mono ?_; rintro e w1 hnp; simp only [Sc.NextPost, HTA.out] at hnp; obtain ⟨b, rfl, hb1, hb2, ⟨g', q', p', h4, h5, h6, h7⟩, hb3⟩ := hnp; rw [← HPP.out, ← HV.out] at hb2; obtain ⟨k0, k1, k2, kf⟩ := cell3 hb2; have HB1 := Lib.hid hb1; have HB2 := Lib.hid hb2; have HB3 := Lib.hid hb3; have H4 := Lib.hid h4; have H5 := Lib.hid h5; have H6 := Lib.hid h6; have H7 := Lib.hid h7; clear hb1 hb2 hb3 kf h4 h5 h6 h7))
          have hown1 : w1.ownsRow w.heap.size 61 3 u5 done.length (done.flatMap tokCells) := ownsRow_of HOWN.out fun k hk => HB3.out.block k (lt_of_heap (ownBlock_at HOWN.out k hk).2.choose_spec) fun hS => HST.out.row_apart HOWN.out hw1 hk k (Sc.own_of_S hS) rfl
          have hsz1 : w.heap.size ≤ w1.heap.size := Nat.le_trans HB.out.size HB3.out.size
          have hbn : ∀ k, u5.ownBlock = some k → k ≠ b := by
            rintro k hk rfl
            obtain ⟨_, cur, hc⟩ := ownBlock_at hown1 k hk
            rw [HB2.out] at hc; simp at hc
          have hblt : b < w1.heap.size := lt_of_heap HB2.out
          have HOWN1 := Lib.hid hown1
          have HBN := Lib.hid hbn
          clear hown1 hbn
          go_region_held3 (fun w' => w'.cell? ⟨b, 0, none⟩ = some (.int .u8 k) ∧ w'.cell? ⟨b, 1, none⟩ = some (.iface vt vy) ∧ w'.cell? ⟨b, 2, none⟩ = some (.int .i64 pp))
            (first
              | go_keep
              | (go_split_ands
                 refine ⟨?_, ?_, ?_⟩
                 · (rw [hgrow.cell_far _ (by simp; omega) (fun hk => HBN.out _ hk.symm rfl)]; assumption)
                 · (rw [hgrow.cell_far _ (by simp; omega) (fun hk => HBN.out _ hk.symm rfl)]; assumption)
                 · (rw [hgrow.cell_far _ (by simp; omega) (fun hk => HBN.out _ hk.symm rfl)]; assumption)))
            ((refine step_append_lies _ (by rfl) _ _ _ (by rfl) w.heap.size 61 i0 _ 3 32 Tryz.underlying55 hi0 hz0 hz1 hz2 rfl (by omega) u5 done.length (done.flatMap tokCells) (by rfl) ((HOWN1.out.alloc _).drew)
                ⟨w1.heap.size, 0, none⟩ 1 1 [.int .u8 k, (.iface vt vy), .int .i64 pp] (by rfl) (by rfl) (World.news_of_block (cs := #[.int .u8 k, (.iface vt vy), .int .i64 pp]) (t := 61) (fr := (0, 0)) (heap_alloc_new w1 _)) (by simp [Value.oneCell'])
                (by omega) (by unfold maxLen; omega) (by omega) (by simp; omega) (w1.heap.size + 1) (by simp) ?_; intro gg cap w3 hown3 hgrow hat hlt))
          have hown4 : w3.ownsRow w.heap.size 61 3 (.slice (some ⟨gg, 0, none⟩) (done.length + 1) cap) (done ++ [(k, v, pp)]).length ((done ++ [(k, v, pp)]).flatMap tokCells) := by
            rw [List.flatMap_append, List.length_append]
            have e : [(k, v, pp)].flatMap tokCells = [.int .u8 k, (.iface vt vy), .int .i64 pp] := by simp [tokCells, HV.out]
            rw [e]
            exact hown3
          have hst3 : ∀ i, s.own g' i → w3.heap[i]? = w1.heap[i]? := fun i hi => (hgrow.block i (by have := H6.out.lt i hi; simp; omega) (fun hk => H6.out.row_apart HOWN1.out hw1 hk.symm i hi rfl)).trans (Below.heap_alloc w1 _ i (H6.out.lt i hi))
          have hbel3 : Below w.heap.size w w3 := ((((HB.out.trans (HFB.out _ HB3.out)).alloc hsz1 _).drew).grown hgrow (by simp; omega) (by
            intro k hk
            exact (ownBlock_at HOWN1.out k hk).1))
          have hgb3 : ∀ x, g' = some x → w.heap.size ≤ x := by
            rcases H7.out with rfl | ⟨_, y, rfl, hy⟩
            · exact hgb
            · rintro x hx; injection hx with hx; have := HB.out.size; omega
          have H8 := Lib.hid hown4
          have H9 := Lib.hid hst3
          have H10 := Lib.hid hbel3
          clear hown4 hst3 hbel3 hown3 hgrow hat
          go_wp2
          go_roundg f'
          case measure => omega
          case rel =>
            have e := HSS.out.1
            rw [← e]
            refine ⟨done ++ [(k, v, pp)], rest', q', H5.out, ?_, ?_, ⟨g', p', H6.out.of_heap H9.out, hgb3⟩, H8.out, H10.out⟩
            · rw [HTS.out, HRE.out]; simp
            · rw [H4.out]; exact HRUN'.out

end Go.Proofs.YtdabllkphibfmaaGreatDoor
