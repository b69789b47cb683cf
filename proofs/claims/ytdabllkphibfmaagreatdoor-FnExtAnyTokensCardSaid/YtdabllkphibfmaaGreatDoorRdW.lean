/- A token, as the reference reads it: walked. -/
import Derived.Test.YtdabllkphibfmaaGreatDoorRdV
import Derived.Test.YtdabllkphibfmaaGreatDoorRdU
import Derived.Test.YtdabllkphibfmaaGreatDoorRdB
import Derived.Deep.RegionHeld3
import Derived.Test.YtdabllkphibfmaaGreatDoorRdO
namespace Go.Proofs.YtdabllkphibfmaaGreatDoor
open Go Go.RowKit
set_option linter.unusedSimpArgs false
set_option linter.unusedVariables false

theorem tk_start {b : Nat} {s : ByteArray} {q : Nat} {w : World} (h : RdAt b s q false w) : TkW b s q false w 0 ⟨#[]⟩ 0 0 (q : Nat) ((w.alloc (.cells (tcells 0 ⟨#[]⟩ 0 0 0) 29)).alloc (.cells (tcells 0 ⟨#[]⟩ 0 0 (q : Nat)) 29)) := by
  have hb := lt_of_heap h
  have hsz : (w.alloc (.cells (tcells 0 ⟨#[]⟩ 0 0 0) 29)).heap.size = w.heap.size + 1 := by simp
  refine ⟨rd_alloc (rd_alloc h _) _, ((fb_refl b w).alloc _).alloc _, ?_, ?_, hb⟩
  · exact (Below.heap_alloc _ _ _ (by rw [hsz]; omega)).trans (heap_alloc_new w _)
  · exact heap_alloc2_new w _ _

def pb : Nat → UInt8
  | 0 => 123 | 1 => 125 | 2 => 91 | 3 => 93 | 4 => 58 | _ => 44

theorem punct_tok (k : Nat) (hk : k < 6) (num lit : UInt8 → List UInt8 → SubEnd) (r : List UInt8) : tokAt num lit (pb k) r = .tok k (.byte (pb k).toNat) r := by
  obtain rfl | rfl | rfl | rfl | rfl | rfl : k = 0 ∨ k = 1 ∨ k = 2 ∨ k = 3 ∨ k = 4 ∨ k = 5 := by omega
  all_goals rfl

def Pun (c : UInt8) (w : World) (wx0 : World) (m : Nat) (i : Value) (wx : World) : Prop := ∃ k : Nat, k ≤ 6 ∧ m = 6 - k ∧ i = .int .i64 (k : Nat) ∧ (∀ j, j < k → c ≠ pb j) ∧ wx = wx0

def wordCells : Array Value := #[.string ⟨#[102, 97, 108, 115, 101]⟩, .string ⟨#[116, 114, 117, 101]⟩, .string ⟨#[110, 117, 108, 108]⟩]
def wordB : Nat → ByteArray
  | 0 => ⟨#[102, 97, 108, 115, 101]⟩ | 1 => ⟨#[116, 114, 117, 101]⟩ | _ => ⟨#[110, 117, 108, 108]⟩
theorem wordB_pos (i : Nat) : 0 < (wordB i).size := by unfold wordB; split <;> decide
theorem tk_words {b : Nat} {s : ByteArray} {q : Nat} {far : Bool} {w : World} {K : Int} {txt : ByteArray} {N B At : Int} {wx : World} (h : TkW b s q far w K txt N B At wx) : TkW b s q far w K txt N B At (wx.alloc (.cells wordCells 9)) := h.move (rd_alloc h.rd _) ((fb_refl b wx).alloc _)
theorem words_at (wx : World) : (wx.alloc (.cells wordCells 9)).heap[wx.heap.size]? = some (.cells wordCells 9 (0, 0)) := heap_alloc_new wx _
theorem word_cell {wx : World} {G : Nat} (h : wx.heap[G]? = some (.cells wordCells 9 (0, 0))) {i : Nat} (hi : i < 3) : wx.cell? ⟨G, i, none⟩ = some (.string (wordB i)) := by
  obtain rfl | rfl | rfl : i = 0 ∨ i = 1 ∨ i = 2 := by omega
  all_goals simp [World.cell?, h, wordCells, wordB]

/-- Behind the first i words. -/
def Wds (c : UInt8) (wx0 : World) (m : Nat) (v : Value) (wx : World) : Prop := ∃ i : Nat, i ≤ 3 ∧ m = 3 - i ∧ v = .int .i64 (i : Nat) ∧ (∀ j, j < i → c ≠ (wordB j)[0]'(wordB_pos j)) ∧ wx = wx0

theorem wordB_le (i : Nat) : (wordB i).size ≤ 5 := by unfold wordB; split <;> decide

def wk : Nat → Nat × TV
  | 0 => (10, .bool false) | 1 => (10, .bool true) | _ => (11, .nul)

theorem word_tok (i : Nat) (hi : i < 3) (num : UInt8 → List UInt8 → SubEnd) (r : List UInt8) : tokAt num litRun ((wordB i)[0]'(wordB_pos i)) r = wordX (wordB i).data.toList (wk i).1 (wk i).2 ((wordB i)[0]'(wordB_pos i) :: r) := by
  obtain rfl | rfl | rfl : i = 0 ∨ i = 1 ∨ i = 2 := by omega
  · exact lit_f r
  · exact lit_t r
  · exact lit_n r

/-- Behind j letters of a word. -/
def Wrd (b : Nat) (s : ByteArray) (q : Nat) (w : World) (x : ByteArray) (m : Nat) (v : Value) (wx : World) : Prop :=
  ∃ j p : Nat, p = q + j ∧ m = x.size - j ∧ j ≤ x.size ∧ p ≤ s.size ∧ v = .int .i64 (j : Nat) ∧ preW x.data.toList (s.data.toList.drop q) = preW (x.data.toList.drop j) (s.data.toList.drop p) ∧ TkW b s p false w 0 ⟨#[]⟩ 0 0 (q : Nat) wx

theorem rd_other {b : Nat} {s : ByteArray} {q : Nat} {far : Bool} {w : World} (h : RdAt b s q far w) {g o : Nat} {v : Value} (hg : b ≠ g) : RdAt b s q far (w.setCell ⟨g, o, none⟩ v) := (heap_set_ne hg).trans h
theorem fb_new {b : Nat} {a w : World} (h : Fb1 b a w) {g o : Nat} {v : Value} (hg : a.heap.size ≤ g) : Fb1 b a (w.setCell ⟨g, o, none⟩ v) := Fr.setCell (p := ⟨g, o, none⟩) h (.inr hg) v

theorem rd_drew {b : Nat} {s : ByteArray} {q : Nat} {far : Bool} {w : World} (h : RdAt b s q far w) : RdAt b s q far w.drew := h
theorem word_ok {s : ByteArray} {q p k : Nat} {v : TV} : TokOk s q (wordEnd k v (s.data.toList.drop p)) (extCells (k, v, q)).toArray (overAt s p) p := by
  unfold wordEnd overAt
  cases h : s.data.toList.drop p with
  | nil => exact ⟨rfl, rfl, h⟩
  | cons e r =>
    simp only
    cases he : isTerm e with
    | true => simp only [if_true]; exact ⟨rfl, rfl, h⟩
    | false => exact rfl

theorem text_tok {s : ByteArray} {q q' : Nat} {txt : ByteArray} {ok : Bool} {E : SubEnd} {r : List UInt8} (hE : E = strSub r) (h : TextOk s (strAll [] r) txt ok q') : TokOk s q E (tcells 9 txt 0 0 (q : Nat)) ok q' := by
  subst hE
  unfold strSub
  unfold strAll at h
  cases hr : strRun (r.length + 1) [] r with
  | err => rw [hr] at h; exact h
  | out => rw [hr] at h; exact h.elim
  | ok l r' =>
    rw [hr] at h
    obtain ⟨h1, rfl, h3⟩ := h
    exact ⟨h1, rfl, h3⟩

theorem pb_ne {c : UInt8} (h : ∀ j, j < 6 → c ≠ pb j) : c ≠ 123 ∧ c ≠ 125 ∧ c ≠ 91 ∧ c ≠ 93 ∧ c ≠ 58 ∧ c ≠ 44 := ⟨h 0 (by omega), h 1 (by omega), h 2 (by omega), h 3 (by omega), h 4 (by omega), h 5 (by omega)⟩
theorem tok_num {c : UInt8} (num lit : UInt8 → List UInt8 → SubEnd) (r : List UInt8) (h : ∀ j, j < 6 → c ≠ pb j) (h34 : c ≠ 34) (hn : c = 45 ∨ (48 ≤ c.toNat ∧ c.toNat ≤ 57)) : tokAt num lit c r = num c r := by
  obtain ⟨a1, a2, a3, a4, a5, a6⟩ := pb_ne h
  unfold tokAt
  rw [if_neg a1, if_neg a2, if_neg a3, if_neg a4, if_neg a5, if_neg a6, if_neg h34, if_pos hn]
theorem tok_err {c : UInt8} (num lit : UInt8 → List UInt8 → SubEnd) (r : List UInt8) (h : ∀ j, j < 6 → c ≠ pb j) (h34 : c ≠ 34) (hn : ¬ (c = 45 ∨ (48 ≤ c.toNat ∧ c.toNat ≤ 57))) (b1 : c ≠ 102) (b2 : c ≠ 116) (b3 : c ≠ 110) : tokAt num lit c r = .err := by
  obtain ⟨a1, a2, a3, a4, a5, a6⟩ := pb_ne h
  unfold tokAt
  rw [if_neg a1, if_neg a2, if_neg a3, if_neg a4, if_neg a5, if_neg a6, if_neg h34, if_neg hn, if_neg (fun h => h.elim b2 fun h => h.elim b1 b3)]

/-- A row of five cells is written. -/
def RowAt (w : World) (g : Nat) (cs : Array Value) : Prop := w.heap[g]? = some (.cells cs 29 (0, 0))
theorem drewN_at (X : World) (m g : Nat) : (X.drewN m).heap[g]? = X.heap[g]? := rfl
theorem row5 {w : World} {g : Nat} {K0 N0 B0 A0 K N B A : Int} {x0 x : ByteArray} (h : w.heap[g]? = some (.cells (tcells K0 x0 N0 B0 A0) 29 (0, 0))) : (((((w.setCell ⟨g, 0, none⟩ (.int .i64 K)).setCell ⟨g, 1, none⟩ (.string x)).setCell ⟨g, 2, none⟩ (.int .i64 N)).setCell ⟨g, 3, none⟩ (.int .u64 B)).setCell ⟨g, 4, none⟩ (.int .i64 A)).heap[g]? = some (.cells (tcells K x N B A) 29 (0, 0)) := by
  rw [heap_set (heap_set (heap_set (heap_set (heap_set h))))]
  rfl
theorem row5d {w : World} {g : Nat} {K0 N0 B0 A0 K N B A : Int} {x0 x : ByteArray} (h : w.heap[g]? = some (.cells (tcells K0 x0 N0 B0 A0) 29 (0, 0))) (m : Nat) : ((((((w.setCell ⟨g, 0, none⟩ (.int .i64 K)).setCell ⟨g, 1, none⟩ (.string x)).setCell ⟨g, 2, none⟩ (.int .i64 N)).setCell ⟨g, 3, none⟩ (.int .u64 B)).setCell ⟨g, 4, none⟩ (.int .i64 A)).drewN m).heap[g]? = some (.cells (tcells K x N B A) 29 (0, 0)) := (drewN_at _ m g).trans (row5 h)

theorem num_stop (c : UInt8) : (c = 45 ∨ (48 ≤ c.toNat ∧ c.toNat ≤ 57)) → stopB c = true := byte_all (p := fun c => (c = 45 ∨ (48 ≤ c.toNat ∧ c.toNat ≤ 57)) → stopB c = true) (by decide +kernel) c

def numE (pf : PF) (l : List UInt8) : SubEnd := match exTV pf (l.takeWhile stopB) with | some v => .tok (kindOf v) v (l.dropWhile stopB) | none => .err

def numE2 (o : Option TV) (r : List UInt8) : SubEnd := match o with | some v => .tok (kindOf v) v r | none => .err

theorem numSub_E (pf : PF) (c : UInt8) (hn : c = 45 ∨ (48 ≤ c.toNat ∧ c.toNat ≤ 57)) (r : List UInt8) (hr : r.length < 1000000) (hp : ∀ txt, exNum txt ≠ none → txt.length ≤ 1000000 → pf txt ≠ none) : numSub pf c r = numE pf (c :: r) := by
  rw [numSub_ex pf c (hn.imp_right fun h => decide_eq_true h) r hr hp]
  unfold numE
  rw [List.takeWhile_cons, List.dropWhile_cons, if_pos (num_stop c hn), if_pos (num_stop c hn)]
  cases exTV pf (c :: List.takeWhile stopB r) <;> rfl

/-- Behind some bytes of a number. -/
def Nl (b : Nat) (s : ByteArray) (q : Nat) (w : World) (m : Nat) (wx : World) : Prop :=
  ∃ i : Nat, m = s.size - i ∧ q ≤ i ∧ i ≤ s.size ∧ (s.data.toList.drop q).takeWhile stopB = (s.data.toList.drop q).take (i - q) ++ (s.data.toList.drop i).takeWhile stopB ∧ (s.data.toList.drop q).dropWhile stopB = (s.data.toList.drop i).dropWhile stopB ∧ TkW b s i false w 0 ⟨#[]⟩ 0 0 (q : Nat) wx

theorem over_no' {s : ByteArray} {i : Nat} (h : overAt s i = false) : ∃ hi : i < s.size, stopB (s[i]'hi) = true := by
  by_cases hi : i < s.size
  · refine ⟨hi, ?_⟩
    unfold overAt at h
    rw [str_drop s i hi] at h
    simpa [stopB] using h
  · unfold overAt at h
    rw [List.drop_of_length_le (l := s.data.toList) (i := i) (by show s.size ≤ i; omega)] at h
    cases h

theorem over_yes' {s : ByteArray} {i : Nat} (h : overAt s i = true) : (s.data.toList.drop i).takeWhile stopB = [] ∧ (s.data.toList.drop i).dropWhile stopB = s.data.toList.drop i := by
  unfold overAt at h
  cases hd : s.data.toList.drop i with
  | nil => exact ⟨rfl, rfl⟩
  | cons c r =>
    rw [hd] at h
    have hf : stopB c = false := by simpa [stopB] using h
    rw [List.takeWhile_cons, List.dropWhile_cons, hf]
    exact ⟨rfl, rfl⟩

theorem nl_step {s : ByteArray} {q i : Nat} (hqi : q ≤ i) (hi : i < s.size) (hs : stopB (s[i]'hi) = true) (h : (s.data.toList.drop q).takeWhile stopB = (s.data.toList.drop q).take (i - q) ++ (s.data.toList.drop i).takeWhile stopB) :
    (s.data.toList.drop q).takeWhile stopB = (s.data.toList.drop q).take (i + 1 - q) ++ (s.data.toList.drop (i + 1)).takeWhile stopB := by
  rw [h, str_drop s i hi, List.takeWhile_cons, if_pos hs]
  have e : i + 1 - q = (i - q) + 1 := by omega
  rw [e, List.take_add_one]
  have e2 : (s.data.toList.drop q)[i - q]? = some (s[i]'hi) := by
    rw [List.getElem?_drop]
    have e3 : q + (i - q) = i := by omega
    rw [e3]
    exact List.getElem?_eq_getElem (by exact hi)
  rw [e2]
  simp

theorem nl_end {pf : PF} {s : ByteArray} {q i : Nat} {E : SubEnd} (hE : E = numE pf (s.data.toList.drop q)) (hqi : q ≤ i) (hi : i ≤ s.size) (ho : overAt s i = true) (h : (s.data.toList.drop q).takeWhile stopB = (s.data.toList.drop q).take (i - q) ++ (s.data.toList.drop i).takeWhile stopB) (h2 : (s.data.toList.drop q).dropWhile stopB = (s.data.toList.drop i).dropWhile stopB) :
    E = numE2 (exTV pf (s.extract q i).data.toList) (s.data.toList.drop i) := by
  obtain ⟨h3, h4⟩ := over_yes' ho
  rw [h3, List.append_nil] at h
  rw [h4] at h2
  have e : (s.extract q i).data.toList = (s.data.toList.drop q).take (i - q) := by
    rw [Lib.extract_data]
  rw [hE, numE, h, h2, e]
  unfold numE2
  cases exTV pf ((s.data.toList.drop q).take (i - q)) <;> rfl

def NumK (b : Nat) (s : ByteArray) (q i : Nat) (w : World) (o : Option TV) (v11 v12 : Value) (wx : World) : Prop :=
  ∃ (K N Bt : Int) (ok2 : Bool) (g : Nat), v11 = .pointer (some ⟨g, 0, none⟩) ∧ v12 = .bool ok2 ∧ NumOk o K N Bt ok2 ∧ wx.heap[g]? = some (.cells (vcells K N Bt) 82 (0, 0)) ∧ w.heap.size + 1 < g ∧ TkW b s i false w 0 ⟨#[]⟩ 0 0 (q : Nat) wx

theorem vcells_at {wx : World} {g : Nat} {K N B : Int} (h : wx.heap[g]? = some (.cells (vcells K N B) 82 (0, 0))) :
    wx.cell? ⟨g, 0, none⟩ = some (.int .i64 K) ∧ wx.cell? ⟨g, 3, none⟩ = some (.int .i64 N) ∧ wx.cell? ⟨g, 4, none⟩ = some (.int .u64 B) ∧ ∀ o, wx.frozen? ⟨g, o, none⟩ = false :=
  ⟨by simp [World.cell?, h, vcells], by simp [World.cell?, h, vcells], by simp [World.cell?, h, vcells], fun o => by simp [World.frozen?, h]⟩

theorem num_tok {s : ByteArray} {q i : Nat} {o : Option TV} {K N Bt : Int} {ok : Bool} {E : SubEnd} (h : NumOk o K N Bt ok) (hE : E = numE2 o (s.data.toList.drop i)) :
    (K = 16 → TokOk s q E (tcells 6 ⟨#[]⟩ N 0 (q : Nat)) ok i) ∧ (K = 18 → TokOk s q E (tcells 7 ⟨#[]⟩ N 0 (q : Nat)) ok i) ∧ (K ≠ 16 → K ≠ 18 → TokOk s q E (tcells 8 ⟨#[]⟩ 0 Bt (q : Nat)) ok i) := by
  subst hE
  cases o with
  | none => exact ⟨fun _ => h, fun _ => h, fun _ _ => h⟩
  | some v =>
    cases v with
    | i32 v =>
      obtain ⟨rfl, rfl, rfl⟩ := h
      exact ⟨fun _ => ⟨rfl, rfl, rfl⟩, fun h => absurd h (by decide), fun h => absurd rfl h⟩
    | i64 v =>
      obtain ⟨rfl, rfl, rfl⟩ := h
      exact ⟨fun h => absurd h (by decide), fun _ => ⟨rfl, rfl, rfl⟩, fun _ h => absurd rfl h⟩
    | f64 b =>
      obtain ⟨rfl, rfl, rfl⟩ := h
      exact ⟨fun h => absurd h (by decide), fun h => absurd h (by decide), fun _ _ => ⟨rfl, rfl, rfl⟩⟩
    | _ => exact h.elim

theorem tk_S {b : Nat} {s : ByteArray} {q i : Nat} {far : Bool} {w : World} {K : Int} {txt : ByteArray} {N B : Int} {wx : World} (h : TkW b s i far w K txt N B (q : Nat) wx) :
    wx.cell? ⟨b, 0, none⟩ = some (.string s) ∧ wx.cell? ⟨b, 1, none⟩ = some (.int .i64 (i : Nat)) ∧ wx.cell? ⟨w.heap.size + 1, 4, none⟩ = some (.int .i64 (q : Nat)) :=
  ⟨(cell3 h.rd).1, (cell3 h.rd).2.1, (cells5 h.t0).2.2.2.2.1⟩

theorem tk_alloc {b : Nat} {s : ByteArray} {q : Nat} {far : Bool} {w : World} {K : Int} {txt : ByteArray} {N B At : Int} {wx : World} (h : TkW b s q far w K txt N B At wx) (o : Obj) : TkW b s q far w K txt N B At (wx.alloc o) := h.move (rd_alloc h.rd _) ((fb_refl b wx).alloc _)

theorem num_call (pf : PF) (hp : ∀ txt, exNum txt ≠ none → txt.length ≤ 1000000 → pf txt ≠ none) (w0 : World) (hpf : PfC w0 pf) {b : Nat} {s : ByteArray} (hl : s.size ≤ 1000000) {q i : Nat} (hi : i ≤ s.size) {w : World} (ho : Old w0 w) (hb0 : w0.heap.size ≤ b) {W : World} (h : TkW b s i false w 0 ⟨#[]⟩ 0 0 (q : Nat) W) :
    Calls Tryz.prog 33 #[.string (s.extract q i)] W fun e w1 => ∃ (K N Bt : Int) (ok2 : Bool), e = .returned (.tuple #[.agg #[.int .i64 K, .string ⟨#[]⟩, .string ⟨#[]⟩, .int .i64 N, .int .u64 Bt, .int .u64 0, .slice none 0 0, .slice none 0 0], .bool ok2]) ∧ NumOk (exTV pf (s.extract q i).data.toList) K N Bt ok2 ∧ TkW b s i false w 0 ⟨#[]⟩ 0 0 (q : Nat) w1 ∧ Below W.heap.size W w1 := by
  refine (extNumber pf hp w0 hpf (s.extract q i) (by simp [ByteArray.size_extract]; omega) W (ho.fr h.fr (fun k hk => by rw [hk]; exact hb0))).mono ?_
  rintro e w1 ⟨K, N, Bt, ok, rfl, h1, h2⟩
  exact ⟨K, N, Bt, ok, rfl, h1, h.move ((h2.block _ (lt_of_heap h.rd)).trans h.rd) (Fr.of_below h2), h2⟩

theorem TkW.row {b : Nat} {s : ByteArray} {q : Nat} {far : Bool} {w : World} {K : Int} {txt : ByteArray} {N B At : Int} {wx : World} (h : TkW b s q far w K txt N B At wx) {g : Nat} (hg : w.heap.size + 1 < g) (cs : Array Value) : TkW b s q far w K txt N B At (wx.setRow g cs) := by
  have hb := h.hb
  exact ⟨(setRow_other _ _ _ _ (by omega)).trans h.rd, ⟨h.fr.os, h.fr.tape, h.fr.output, by simpa [World.setRow] using h.fr.size, fun k hk hn => (setRow_other _ _ _ _ (by omega)).trans (h.fr.block k hk hn)⟩, (setRow_other _ _ _ _ (by omega)).trans h.r0, (setRow_other _ _ _ _ (by omega)).trans h.t0, hb⟩

theorem zcells {wx : World} {g : Nat} (h : wx.heap[g]? = some (.cells zeroVal 82 (0, 0))) :
    wx.cell? ⟨g, 0, none⟩ = some (.int .i64 0) ∧ wx.cell? ⟨g, 1, none⟩ = some (.string ⟨#[]⟩) ∧ wx.cell? ⟨g, 2, none⟩ = some (.string ⟨#[]⟩) ∧ wx.cell? ⟨g, 3, none⟩ = some (.int .i64 0) ∧ wx.cell? ⟨g, 4, none⟩ = some (.int .u64 0) ∧ wx.cell? ⟨g, 5, none⟩ = some (.int .u64 0) ∧ wx.cell? ⟨g, 6, none⟩ = some (.slice none 0 0) ∧ wx.cell? ⟨g, 7, none⟩ = some (.slice none 0 0) ∧ ∀ o, wx.frozen? ⟨g, o, none⟩ = false :=
  ⟨by simp [World.cell?, h, zeroVal], by simp [World.cell?, h, zeroVal], by simp [World.cell?, h, zeroVal], by simp [World.cell?, h, zeroVal], by simp [World.cell?, h, zeroVal], by simp [World.cell?, h, zeroVal], by simp [World.cell?, h, zeroVal], by simp [World.cell?, h, zeroVal], fun o => by simp [World.frozen?, h]⟩

theorem s_1 {b G : Nat} {x y z : Value} {W : World} (h : W.cell? ⟨b, 0, none⟩ = some x ∧ W.cell? ⟨b, 1, none⟩ = some y ∧ W.cell? ⟨G, 4, none⟩ = some z) {g : Nat} (h1 : b ≠ g) (h2 : G ≠ g) (o : Nat) (v : Value) :
    (W.setCell ⟨g, o, none⟩ v).cell? ⟨b, 0, none⟩ = some x ∧ (W.setCell ⟨g, o, none⟩ v).cell? ⟨b, 1, none⟩ = some y ∧ (W.setCell ⟨g, o, none⟩ v).cell? ⟨G, 4, none⟩ = some z :=
  ⟨(World.cell?_of_block (a := ⟨b, 0, none⟩) (heap_set_ne h1)).trans h.1, (World.cell?_of_block (a := ⟨b, 1, none⟩) (heap_set_ne h1)).trans h.2.1, (World.cell?_of_block (a := ⟨G, 4, none⟩) (heap_set_ne h2)).trans h.2.2⟩

theorem s_8 {b G : Nat} {x y z : Value} {W : World} {g : Nat} {v0 v1 v2 v3 v4 v5 v6 v7 : Value} (h : W.cell? ⟨b, 0, none⟩ = some x ∧ W.cell? ⟨b, 1, none⟩ = some y ∧ W.cell? ⟨G, 4, none⟩ = some z) (h1 : b ≠ g) (h2 : G ≠ g) :
    ((((((((W.setCell ⟨g, 0, none⟩ v0).setCell ⟨g, 1, none⟩ v1).setCell ⟨g, 2, none⟩ v2).setCell ⟨g, 3, none⟩ v3).setCell ⟨g, 4, none⟩ v4).setCell ⟨g, 5, none⟩ v5).setCell ⟨g, 6, none⟩ v6).setCell ⟨g, 7, none⟩ v7).cell? ⟨b, 0, none⟩ = some x ∧
    ((((((((W.setCell ⟨g, 0, none⟩ v0).setCell ⟨g, 1, none⟩ v1).setCell ⟨g, 2, none⟩ v2).setCell ⟨g, 3, none⟩ v3).setCell ⟨g, 4, none⟩ v4).setCell ⟨g, 5, none⟩ v5).setCell ⟨g, 6, none⟩ v6).setCell ⟨g, 7, none⟩ v7).cell? ⟨b, 1, none⟩ = some y ∧
    ((((((((W.setCell ⟨g, 0, none⟩ v0).setCell ⟨g, 1, none⟩ v1).setCell ⟨g, 2, none⟩ v2).setCell ⟨g, 3, none⟩ v3).setCell ⟨g, 4, none⟩ v4).setCell ⟨g, 5, none⟩ v5).setCell ⟨g, 6, none⟩ v6).setCell ⟨g, 7, none⟩ v7).cell? ⟨G, 4, none⟩ = some z :=
  s_1 (s_1 (s_1 (s_1 (s_1 (s_1 (s_1 (s_1 h h1 h2 _ _) h1 h2 _ _) h1 h2 _ _) h1 h2 _ _) h1 h2 _ _) h1 h2 _ _) h1 h2 _ _) h1 h2 _ _

set_option maxRecDepth 1000000 in
set_option maxHeartbeats 16000000 in
theorem token (pf : PF) (hp : ∀ txt, exNum txt ≠ none → txt.length ≤ 1000000 → pf txt ≠ none) (w0 : World) (hpf : PfC w0 pf) (b : Nat) (s : ByteArray) (hl : s.size ≤ 1000000) (q : Nat) (hq : q < s.size) (c : UInt8) (hc : s[q]'hq = c) (w : World) (ho : Old w0 w) (hb0 : w0.heap.size ≤ b) (h : RdAt b s q false w) :
    Calls Tryz.prog 17 #[.pointer (some ⟨b, 0, none⟩)] w (TokPost b s q (tokAt (numSub pf) litRun c (s.data.toList.drop (q + 1))) w) := by
  have hb : b < w.heap.size := lt_of_heap h
  obtain ⟨E, hE⟩ : ∃ E, tokAt (numSub pf) litRun c (s.data.toList.drop (q + 1)) = E := ⟨_, rfl⟩
  rw [hE]
  have HE := Lib.hid hE
  have HO := Lib.hid ho
  have HPF := Lib.hid hpf
  have HP := Lib.hid hp
  obtain ⟨c0, c1, c2, cf⟩ := cell3 h
  have H0 := Lib.hid h
  have H1 := Lib.hid (tk_start h)
  clear hE ho hpf hp h
  go_enter Tryz.func17, Tryz.ntmps17
  go_upto_region 2 with fail
  change Code.wp _ _ _ _ ((w.alloc (.cells (tcells 0 ⟨#[]⟩ 0 0 0) 29)).alloc (.cells (tcells 0 ⟨#[]⟩ 0 0 (q : Nat)) 29))
  generalize hW1 : (w.alloc (.cells (tcells 0 ⟨#[]⟩ 0 0 0) 29)).alloc (.cells (tcells 0 ⟨#[]⟩ 0 0 (q : Nat)) 29) = W1
  rw [hW1] at H1
  clear hW1 c0 c1 c2 cf
  obtain ⟨c0, c1, c2, cf⟩ := cell3 H1.out.rd
  go_quiet (fail)
  have HC := Lib.hid hc
  clear hc c0 c1 c2 cf
  have H2 := Lib.hid (H1.out.drewN nq)
  generalize hW2 : W1.drewN nq = W2
  rw [hW2] at H2
  clear hW2
  obtain ⟨c0, c1, c2, cf⟩ := cell3 H2.out.rd
  go_wp2
  go_loopg [6] 6 (fun m i wx => Aside (Pun c w W2 m i wx))
  case atStart => exact ⟨0, by omega, rfl, rfl, fun j hj => by omega, rfl⟩
  case round =>
    obtain ⟨k, hk6, rfl, rfl, hne, rfl⟩ := hrel.out
    have HNE := Lib.hid hne
    clear hrel hne
    obtain ⟨t0, t1, t2, t3, t4, tf⟩ := cells5 H2.out.t0
    by_cases hk : k < 6
    · obtain ⟨d, hd⟩ : ∃ d, (⟨#[123, 125, 91, 93, 58, 44]⟩ : ByteArray)[k]'hk = d := ⟨_, rfl⟩
      have hdp : d = pb k := by
        rw [← hd]
        obtain rfl | rfl | rfl | rfl | rfl | rfl : k = 0 ∨ k = 1 ∨ k = 2 ∨ k = 3 ∨ k = 4 ∨ k = 5 := by omega
        all_goals rfl
      have HDP := Lib.hid hdp
      clear hdp
      by_cases hcp : c = d
      · have hcd : ((c.toNat : Int) == (d.toNat : Nat)) = true := by rw [hcp]; simp
        have HEE : Hid (E = .tok k (.byte (pb k).toNat) (s.data.toList.drop (q + 1))) := Lib.hid (HE.out.symm.trans (by rw [hcp, HDP.out]; exact punct_tok k hk _ _ _))
        have HT := Lib.hid ((H2.out.go (q + 1)).put (K' := (k : Nat)) (txt' := ⟨#[]⟩) (N' := 0) (B' := 0) (At' := (q : Nat)) 0 (.int .i64 (k : Nat)) rfl)
        clear hcp
        as_aux_lemma =>
        go_wp2_with (first | (refine wpList_load_row rfl 29 (.tmp 4) rfl _ rfl 29 (tcells (k : Nat) ⟨#[]⟩ 0 0 (q : Nat)) (0, 0) _ (TkW.t0 HT.out) Tryz.underlying29 rfl size29 ?_) | (refine wpList_store_row rfl 29 (.tmp 2) (.tmp 44) rfl _ (tcells (k : Nat) ⟨#[]⟩ 0 0 (q : Nat)) rfl rfl 29 (tcells 0 ⟨#[]⟩ 0 0 0) (TkW.r0 HT.out) size29 rfl (tcells_one _ _ _ _ _) ?_))
        exact bodyPost_ret (results_cell_tmp Tryz.results17 _ _ w.heap.size 29 (tcells (k : Nat) ⟨#[]⟩ 0 0 (q : Nat)) (0, 0) _ rfl (HT.out.retRow _).1 Tryz.underlying29 rfl size29 (.bool true) rfl) rfl (tok_ret HT.out (by omega) _ (fun h => by cases h) fun _ => by rw [HEE.out]; exact ⟨rfl, rfl, rfl⟩)
      · have hcd : ((c.toNat : Int) == (d.toNat : Nat)) = false := by
          rw [Bool.eq_false_iff]
          intro he
          rw [beq_iff_eq] at he
          exact hcp (UInt8.toNat_inj.1 (by omega))
        have HNP : Hid (∀ j, j < k + 1 → c ≠ pb j) := Lib.hid (fun j hj => by
          by_cases hjk : j < k
          · exact HNE.out j hjk
          · obtain rfl : j = k := by omega
            rw [← HDP.out]
            exact hcp)
        clear hcp
        as_aux_lemma =>
        go_wp2
        go_roundg (6 - (k + 1))
        case measure => omega
        case rel => exact ⟨k + 1, by omega, rfl, rfl, HNP.out, rfl⟩
    · obtain rfl : k = 6 := by omega
      clear hk hk6 t0 t1 t2 t3 t4 tf c0 c1 c2 cf
      go_upto_block 2 with fail
      have H3 := Lib.hid (tk_words H2.out)
      have hG := words_at wr
      generalize hW3 : World.alloc wr _ = W3
      change wr.alloc _ = W3 at hW3
      rw [show wr.alloc (.cells wordCells 9) = W3 from hW3] at H3 hG
      clear hW3
      have HG := Lib.hid hG
      obtain ⟨G, hGG⟩ : ∃ G, wr.heap.size = G := ⟨_, rfl⟩
      rw [hGG] at HG ⊢
      clear hGG hG
      go_wp2
      go_loopg [47] 3 (fun m v wx => Aside (Wds c W3 m v wx))
      case atStart => exact ⟨0, by omega, rfl, rfl, fun j hj => by omega, rfl⟩
      case round =>
        obtain ⟨i, hi3, rfl, rfl, hnw, rfl⟩ := hrel.out
        have HNW := Lib.hid hnw
        clear hrel hnw
        by_cases hlt3 : i < 3
        · obtain ⟨x, hx⟩ : ∃ x, wordB i = x := ⟨_, rfl⟩
          have hcx := (word_cell HG.out hlt3)
          have hx0 : 0 < x.size := by rw [← hx]; exact wordB_pos i
          obtain ⟨d, hd⟩ : ∃ d, x[0]'hx0 = d := ⟨_, rfl⟩
          rw [hx] at hcx
          have HX := Lib.hid hx
          have HD := Lib.hid hd
          have hx5 : x.size ≤ 5 := by rw [← hx]; exact wordB_le i
          clear hx
          by_cases hcd0 : c = d
          · have hcd : ((c.toNat : Int) == (d.toNat : Nat)) = true := by rw [hcd0]; simp
            have HW : Hid (E = wordX x.data.toList (wk i).1 (wk i).2 (s.data.toList.drop q)) := Lib.hid (by
              rw [← HE.out, str_drop s q hq, HC.out, hcd0, ← HD.out]
              have h0 := HX.out
              subst h0
              exact word_tok i hlt3 _ _)
            clear hcd0
            go_wp2
            go_loopg [9] x.size (fun m v wx => Aside (Wrd b s q w x m v wx))
            case atStart => exact ⟨0, q, rfl, rfl, by omega, by omega, rfl, rfl, H3.out⟩
            case round =>
              obtain ⟨j, p, hp, rfl, hjx, hps, rfl, hpre, hT⟩ := hrel.out
              have HPR := Lib.hid hpre
              have HT := Lib.hid hT
              have HPP := Lib.hid hp
              clear hrel hpre hT hp hcd hcx hd H3 H2 HG HNW
              obtain ⟨c0, c1, c2, cf⟩ := cell3 HT.out.rd
              obtain ⟨t0, t1, t2, t3, t4, tf⟩ := cells5 HT.out.t0
              by_cases hjl : j < x.size
              · obtain ⟨y, hy⟩ : ∃ y, x[j]'hjl = y := ⟨_, rfl⟩
                have HXD : Hid (x.data.toList.drop j = y :: x.data.toList.drop (j + 1)) := Lib.hid (by rw [str_drop x j hjl, hy])
                by_cases hpl : p < s.size
                · have hge : decide (s.size ≤ p) = false := by simp; omega
                  have hge2 : decide (((s.size : Nat) : Int) ≤ (p : Nat)) = false := by simp; omega
                  obtain ⟨e, he⟩ : ∃ e, s[p]'hpl = e := ⟨_, rfl⟩
                  have HSD : Hid (s.data.toList.drop p = e :: s.data.toList.drop (p + 1)) := Lib.hid (by rw [str_drop s p hpl, he])
                  by_cases hey : e = y
                  · have hne : ((e.toNat : Int) != (y.toNat : Nat)) = false := by rw [hey]; simp
                    have HN : Hid (preW x.data.toList (s.data.toList.drop q) = preW (x.data.toList.drop (j + 1)) (s.data.toList.drop (p + 1))) := Lib.hid (by rw [HPR.out, HXD.out, HSD.out, hey, preW, if_pos rfl])
                    clear hey
                    as_aux_lemma =>
                    go_wp2
                    go_quiet (fail)
                    go_wp2
                    go_roundg (x.size - (j + 1))
                    case measure => omega
                    case rel => exact ⟨j + 1, p + 1, by have := HPP.out; omega, rfl, by omega, by omega, rfl, HN.out, (HT.out.drewN _).go (p + 1)⟩
                  · have hne : ((e.toNat : Int) != (y.toNat : Nat)) = true := by
                      simp only [bne_iff_ne, ne_eq]
                      intro h
                      exact hey (UInt8.toNat_inj.1 (by omega))
                    have HEE : Hid (E = .err) := Lib.hid (by rw [HW.out, wordX, HPR.out, HXD.out, HSD.out, preW, if_neg hey])
                    clear hey
                    as_aux_lemma =>
                    go_wp2
                    go_quiet (fail)
                    have HT2 := Lib.hid (HT.out.drewN nq)
                    go_wp2_with (first | (refine wpList_load_row rfl 29 (.tmp 4) rfl _ rfl 29 (tcells 0 ⟨#[]⟩ 0 0 (q : Nat)) (0, 0) _ (TkW.t0 HT2.out) Tryz.underlying29 rfl size29 ?_) | (refine wpList_store_row rfl 29 (.tmp 2) (.tmp 87) rfl _ (tcells 0 ⟨#[]⟩ 0 0 (q : Nat)) rfl rfl 29 (tcells 0 ⟨#[]⟩ 0 0 0) (TkW.r0 HT2.out) size29 rfl (tcells_one _ _ _ _ _) ?_))
                    exact bodyPost_ret (results_cell_tmp Tryz.results17 _ _ w.heap.size 29 (tcells 0 ⟨#[]⟩ 0 0 (q : Nat)) (0, 0) _ rfl (HT2.out.retRow _).1 Tryz.underlying29 rfl size29 (.bool false) rfl) rfl (tok_ret HT2.out (by omega) _ (fun _ => rfl) fun _ => by rw [HEE.out]; exact rfl)
                · have hge : decide (s.size ≤ p) = true := by simp; omega
                  have hge2 : decide (((s.size : Nat) : Int) ≤ (p : Nat)) = true := by simp; omega
                  have HEE : Hid (E = .err) := Lib.hid (by rw [HW.out, wordX, HPR.out, HXD.out, List.drop_of_length_le (l := s.data.toList) (i := p) (by show s.size ≤ p; omega)]; rfl)
                  as_aux_lemma =>
                  go_wp2
                  go_quiet (fail)
                  have HT2 := Lib.hid (HT.out.drewN nq)
                  go_wp2_with (first | (refine wpList_load_row rfl 29 (.tmp 4) rfl _ rfl 29 (tcells 0 ⟨#[]⟩ 0 0 (q : Nat)) (0, 0) _ (TkW.t0 HT2.out) Tryz.underlying29 rfl size29 ?_) | (refine wpList_store_row rfl 29 (.tmp 2) (.tmp 87) rfl _ (tcells 0 ⟨#[]⟩ 0 0 (q : Nat)) rfl rfl 29 (tcells 0 ⟨#[]⟩ 0 0 0) (TkW.r0 HT2.out) size29 rfl (tcells_one _ _ _ _ _) ?_))
                  exact bodyPost_ret (results_cell_tmp Tryz.results17 _ _ w.heap.size 29 (tcells 0 ⟨#[]⟩ 0 0 (q : Nat)) (0, 0) _ rfl (HT2.out.retRow _).1 Tryz.underlying29 rfl size29 (.bool false) rfl) rfl (tok_ret HT2.out (by omega) _ (fun _ => rfl) fun _ => by rw [HEE.out]; exact rfl)
              · have HWW : Hid (E = wordEnd (wk i).1 (wk i).2 (s.data.toList.drop p)) := Lib.hid (by
                  rw [HW.out, wordX, HPR.out, List.drop_of_length_le (by show x.size ≤ j; omega)]
                  rfl)
                have hjx2 : j = x.size := by omega
                subst hjx2
                clear hjl hjx
                obtain ⟨r0, r1, r2, r3, r4, rf⟩ := cells5 HT.out.r0
                obtain rfl | rfl | rfl : i = 0 ∨ i = 1 ∨ i = 2 := by omega
                · have HT2 := Lib.hid (HT.out.put (K' := 10) (txt' := ⟨#[]⟩) (N' := 0) (B' := 0) (At' := (q : Nat)) 0 (.int .i64 10) rfl)
                  as_aux_lemma =>
                  go_wp2
                  go_region_with ((go_at_call 31; refine (over b s p false _ (by repeat (first | exact HT2.out.rd | exact rd_drew HT2.out.rd | refine rd_other ?_ (by have := HT.out.hb; omega) | refine RdAt.drewN ?_ _ | refine rd_drew ?_)) hl).mono ?_; rintro e2 w1 ⟨rfl, n9, rfl⟩))
                  all_goals go_wp2
                  all_goals refine bodyPost_ret (results_cell_tmp Tryz.results17 _ _ w.heap.size 29 (tcells 10 ⟨#[]⟩ 0 0 (q : Nat)) (0, 0) _ rfl (by first | exact row5 (HT2.out.drewN _).r0 | exact row5d (HT2.out.drewN _).r0 _) Tryz.underlying29 rfl size29 (.bool (overAt s p)) rfl) rfl ?_
                  all_goals
                    refine ⟨tcells 10 ⟨#[]⟩ 0 0 (q : Nat), _, false, p, rfl, ⟨_, _, _, _, _, rfl⟩, hps, ?_, ?_, (fun h => by cases h), fun _ => ?_⟩
                    · repeat (first | with_reducible refine rd_other ?_ (by have := HT.out.hb; omega) | with_reducible refine RdAt.drewN ?_ _ | exact HT.out.rd)
                    · repeat (first | with_reducible refine fb_new ?_ (by omega) | with_reducible refine fb_n ?_ _ | exact HT.out.fr)
                    · rw [HWW.out]
                      exact word_ok
                · have HT2 := Lib.hid ((HT.out.put (K' := 10) (txt' := ⟨#[]⟩) (N' := 0) (B' := 0) (At' := (q : Nat)) 0 (.int .i64 10) rfl).put (K' := 10) (txt' := ⟨#[]⟩) (N' := 1) (B' := 0) (At' := (q : Nat)) 2 (.int .i64 1) rfl)
                  as_aux_lemma =>
                  go_wp2
                  go_region_with ((go_at_call 31; refine (over b s p false _ (by repeat (first | exact HT2.out.rd | exact rd_drew HT2.out.rd | refine rd_other ?_ (by have := HT.out.hb; omega) | refine RdAt.drewN ?_ _ | refine rd_drew ?_)) hl).mono ?_; rintro e2 w1 ⟨rfl, n9, rfl⟩))
                  all_goals go_wp2
                  all_goals refine bodyPost_ret (results_cell_tmp Tryz.results17 _ _ w.heap.size 29 (tcells 10 ⟨#[]⟩ 1 0 (q : Nat)) (0, 0) _ rfl (by first | exact row5 (HT2.out.drewN _).r0 | exact row5d (HT2.out.drewN _).r0 _) Tryz.underlying29 rfl size29 (.bool (overAt s p)) rfl) rfl ?_
                  all_goals
                    refine ⟨tcells 10 ⟨#[]⟩ 1 0 (q : Nat), _, false, p, rfl, ⟨_, _, _, _, _, rfl⟩, hps, ?_, ?_, (fun h => by cases h), fun _ => ?_⟩
                    · repeat (first | with_reducible refine rd_other ?_ (by have := HT.out.hb; omega) | with_reducible refine RdAt.drewN ?_ _ | exact HT.out.rd)
                    · repeat (first | with_reducible refine fb_new ?_ (by omega) | with_reducible refine fb_n ?_ _ | exact HT.out.fr)
                    · rw [HWW.out]
                      exact word_ok
                · have HT2 := Lib.hid ((HT.out.put (K' := 10) (txt' := ⟨#[]⟩) (N' := 0) (B' := 0) (At' := (q : Nat)) 0 (.int .i64 10) rfl).put (K' := 11) (txt' := ⟨#[]⟩) (N' := 0) (B' := 0) (At' := (q : Nat)) 0 (.int .i64 11) rfl)
                  as_aux_lemma =>
                  go_wp2
                  go_region_with ((go_at_call 31; refine (over b s p false _ (by repeat (first | exact HT2.out.rd | exact rd_drew HT2.out.rd | refine rd_other ?_ (by have := HT.out.hb; omega) | refine RdAt.drewN ?_ _ | refine rd_drew ?_)) hl).mono ?_; rintro e2 w1 ⟨rfl, n9, rfl⟩))
                  all_goals go_wp2
                  all_goals refine bodyPost_ret (results_cell_tmp Tryz.results17 _ _ w.heap.size 29 (tcells 11 ⟨#[]⟩ 0 0 (q : Nat)) (0, 0) _ rfl (by first | exact row5 (HT2.out.drewN _).r0 | exact row5d (HT2.out.drewN _).r0 _) Tryz.underlying29 rfl size29 (.bool (overAt s p)) rfl) rfl ?_
                  all_goals
                    refine ⟨tcells 11 ⟨#[]⟩ 0 0 (q : Nat), _, false, p, rfl, ⟨_, _, _, _, _, rfl⟩, hps, ?_, ?_, (fun h => by cases h), fun _ => ?_⟩
                    · repeat (first | with_reducible refine rd_other ?_ (by have := HT.out.hb; omega) | with_reducible refine RdAt.drewN ?_ _ | exact HT.out.rd)
                    · repeat (first | with_reducible refine fb_new ?_ (by omega) | with_reducible refine fb_n ?_ _ | exact HT.out.fr)
                    · rw [HWW.out]
                      exact word_ok
          · have hcd : ((c.toNat : Int) == (d.toNat : Nat)) = false := by
              rw [Bool.eq_false_iff]
              intro he
              rw [beq_iff_eq] at he
              exact hcd0 (UInt8.toNat_inj.1 (by omega))
            have HNN : Hid (∀ j, j < i + 1 → c ≠ (wordB j)[0]'(wordB_pos j)) := Lib.hid (fun j hj => by
              by_cases hjk : j < i
              · exact HNW.out j hjk
              · obtain rfl : j = i := by omega
                intro hcc
                apply hcd0
                rw [hcc, ← HD.out]
                have h0 := HX.out
                subst h0
                rfl)
            clear hcd0
            as_aux_lemma =>
            go_wp2
            go_roundg (3 - (i + 1))
            case measure => omega
            case rel => exact ⟨i + 1, by omega, rfl, rfl, HNN.out, rfl⟩
        · obtain rfl : i = 3 := by omega
          have n1 : c ≠ 102 := HNW.out 0 (by omega)
          have n2 : c ≠ 116 := HNW.out 1 (by omega)
          have n3 : c ≠ 110 := HNW.out 2 (by omega)
          have HN1 := Lib.hid (And.intro n1 (And.intro n2 n3))
          clear hlt3 hi3 HNW HG n1 n2 n3
          obtain ⟨t0, t1, t2, t3, t4, tf⟩ := cells5 H3.out.t0
          obtain ⟨c0, c1, c2, cf⟩ := cell3 H3.out.rd
          by_cases h34 : c = 34
          · subst h34
            have HE2 : Hid (E = strSub (s.data.toList.drop (q + 1))) := Lib.hid HE.out.symm
            have HT1 := Lib.hid (H3.out.put (K' := 9) (txt' := ⟨#[]⟩) (N' := 0) (B' := 0) (At' := (q : Nat)) 0 (.int .i64 9) rfl)
            as_aux_lemma =>
            go_wp2_with (first | (go_at_call 32; refine (text b s q _ hq HT1.out.rd hl).mono ?_; rintro e2 w1 ⟨txt, ok2, far2, q2, rfl, hq2, hR2, hF2, hfar, hok⟩; have HT2 := Lib.hid (HT1.out.move hR2 hF2); obtain ⟨v0, v1, v2, v3, v4, vf⟩ := cells5 HT2.out.t0; have HT3 := Lib.hid (HT2.out.put (K' := 9) (txt' := txt) (N' := 0) (B' := 0) (At' := (q : Nat)) 1 (.string txt) rfl); have HFR := Lib.hid hfar; have HOK := Lib.hid hok; clear hR2 hF2 hfar hok) | (refine wpList_load_row rfl 29 (.tmp 4) rfl _ rfl 29 (tcells 9 txt 0 0 (q : Nat)) (0, 0) _ (TkW.t0 HT3.out) Tryz.underlying29 rfl size29 ?_) | (refine wpList_store_row rfl 29 (.tmp 2) (.tmp 115) rfl _ (tcells 9 txt 0 0 (q : Nat)) rfl rfl 29 (tcells 0 ⟨#[]⟩ 0 0 0) (TkW.r0 HT3.out) size29 rfl (tcells_one _ _ _ _ _) ?_))
            exact bodyPost_ret (results_cell_tmp Tryz.results17 _ _ w.heap.size 29 (tcells 9 txt 0 0 (q : Nat)) (0, 0) _ rfl (HT3.out.retRow _).1 Tryz.underlying29 rfl size29 (.bool ok2) rfl) rfl (tok_ret HT3.out hq2 _ HFR.out fun h => text_tok HE2.out (HOK.out h))
          · have n34 : ((c.toNat : Int) == 34) = false := byte_ne' (k := 34) h34
            by_cases hnum : c = 45 ∨ (48 ≤ c.toNat ∧ c.toNat ≤ 57)
            · have hst := num_stop c hnum
              have hov0 : overAt s q = false := by
                unfold overAt
                rw [str_drop s q hq, HC.out]
                exact (by simpa [stopB] using hst)
              have HE2 : Hid (E = numE pf (s.data.toList.drop q)) := Lib.hid (HE.out.symm.trans ((tok_num _ _ _ (fun j hj => HNE.out j hj) h34 hnum).trans (by
                rw [numSub_E pf c hnum _ (by rw [str_drop_len]; omega) HP.out, str_drop s q hq, HC.out])))
              go_upto_region 32 with fail
              go_cut [126] (fun v wx => v = .bool false ∧ wr = wx)
              case first =>
                as_aux_lemma =>
                by_cases h45 : c = 45
                · have n45 : ((c.toNat : Int) != 45) = false := by rw [h45]; rfl
                  clear h45 hnum
                  go_wp2
                  go_meet
                  exact ⟨rfl, rfl⟩
                · have n45 : ((c.toNat : Int) != 45) = true := by
                    simp only [bne_iff_ne, ne_eq]
                    intro h
                    exact h45 (UInt8.toNat_inj.1 (show c.toNat = 45 by omega))
                  have hdg := hnum.resolve_left h45
                  have e1 : decide ((c.toNat : Int) < 48) = false := decide_eq_false (by omega)
                  have e2 : decide ((57 : Int) < c.toNat) = false := decide_eq_false (by omega)
                  clear h45 hnum hdg
                  go_wp2
                  go_meet
                  exact ⟨rfl, rfl⟩
              case rest =>
               as_aux_lemma =>
                obtain ⟨rfl, rfl⟩ := hcut
                go_wp2
                go_loopg [] (s.size - q) (fun m wx => Aside (Nl b s q w m wx))
                case atStart => exact ⟨q, rfl, Nat.le_refl _, by omega, by simp, rfl, H3.out⟩
                case round =>
                  obtain ⟨i, rfl, hqi, his, htw, hdw, hT⟩ := hrel.out
                  have HTW := Lib.hid htw
                  have HDW := Lib.hid hdw
                  have HT := Lib.hid hT
                  clear hrel htw hdw hT t0 t1 t2 t3 t4 tf c0 c1 c2 cf hst hov0
                  obtain ⟨c0, c1, c2, cf⟩ := cell3 HT.out.rd
                  obtain ⟨t0, t1, t2, t3, t4, tf⟩ := cells5 HT.out.t0
                  cases hov : overAt s i with
                  | false =>
                    obtain ⟨hil, hsb⟩ := over_no' hov
                    have HSB := Lib.hid hsb
                    as_aux_lemma =>
                    go_wp2_with (first | (go_at_call 31; refine (over b s i false _ HT.out.rd hl).mono ?_; rintro e2 w1 ⟨he2, n9, rfl⟩; rw [hov] at he2; subst he2))
                    go_roundg (s.size - (i + 1))
                    case measure => omega
                    case rel => exact ⟨i + 1, rfl, by omega, by omega, nl_step hqi hil HSB.out HTW.out, by rw [HDW.out, str_drop s i hil, List.dropWhile_cons, if_pos HSB.out], (HT.out.drewN _).go (i + 1)⟩
                  | true =>
                    have HEE := Lib.hid (nl_end HE2.out hqi his hov HTW.out HDW.out)
                    as_aux_lemma =>
                    go_wp2_with (first | (go_at_call 31; refine (over b s i false _ HT.out.rd hl).mono ?_; rintro e2 w1 ⟨he2, n9, rfl⟩; rw [hov] at he2; subst he2))
                    have HT2 := Lib.hid (HT.out.drewN n9)
                    clear hov
                    go_cut [11, 12] (fun v11 v12 wx => Aside (NumK b s q i w (exTV pf (s.extract q i).data.toList) v11 v12 wx))
                    case first =>
                      as_aux_lemma =>
                      have HNC := Lib.hid (fun W (hW : TkW b s i false w 0 ⟨#[]⟩ 0 0 (q : Nat) W) => num_call pf HP.out w0 HPF.out hl his HO.out hb0 hW)
                      have his2 : (i : Int) ≤ (s.size : Nat) := by omega
                      have hqi2 : (q : Int) ≤ (i : Nat) := by omega
                      refine wp_region_held_drew (S := (fun w' => w'.cell? ⟨b, 0, none⟩ = some (.string s) ∧ w'.cell? ⟨b, 1, none⟩ = some (.int .i64 (i : Nat)) ∧ w'.cell? ⟨w.heap.size + 1, 4, none⟩ = some (.int .i64 (q : Nat)))) (by kernel_rfl) (tk_S HT2.out.drew) (fun hHeld => ?_)
                      refine takeH (i := 0) (some 139) (.pointer (some ⟨b, 0, none⟩)) rfl rfl (by kernel_rfl) (by kernel_rfl) (by kernel_rfl) (fun _ _ _ h => h) (by rfl) (fun W hW => x_move rfl (by kernel_rfl)) hHeld ?_
                      simp only [Act.put, List.setIfInBounds_toArray, List.set_cons_zero, List.set_cons_succ]
                      refine takeH (i := 1) (some 140) (.pointer (some ⟨b, 0, none⟩)) rfl rfl (by kernel_rfl) (by kernel_rfl) (by kernel_rfl) (fun _ _ _ h => h) (by rfl) (fun W hW => x_nil rfl (by kernel_rfl)) hHeld ?_
                      simp only [Act.put, List.setIfInBounds_toArray, List.set_cons_zero, List.set_cons_succ]
                      refine takeH (i := 2) (some 141) (.pointer (some ⟨b, 0, none⟩)) rfl rfl (by kernel_rfl) (by kernel_rfl) (by kernel_rfl) (fun _ _ _ h => h) (by rfl) (fun W hW => x_field51 rfl (.inl rfl) (by kernel_rfl)) hHeld ?_
                      simp only [Act.put, List.setIfInBounds_toArray, List.set_cons_zero, List.set_cons_succ]
                      refine takeH (i := 3) (some 142) (.string s) rfl rfl (by kernel_rfl) (by kernel_rfl) (by kernel_rfl) (fun _ _ _ h => h) (by rfl) (fun W hW => x_load9 rfl (by kernel_rfl) hW.1) hHeld ?_
                      simp only [Act.put, List.setIfInBounds_toArray, List.set_cons_zero, List.set_cons_succ]
                      refine takeH (i := 4) (some 143) (.pointer (some ⟨w.heap.size + 1, 4, none⟩)) rfl rfl (by kernel_rfl) (by kernel_rfl) (by kernel_rfl) (fun _ _ _ h => h) (by rfl) (fun W hW => x_field29 rfl (by kernel_rfl)) hHeld ?_
                      simp only [Act.put, List.setIfInBounds_toArray, List.set_cons_zero, List.set_cons_succ]
                      refine takeH (i := 5) (some 144) (.int .i64 (q : Nat)) rfl rfl (by kernel_rfl) (by kernel_rfl) (by kernel_rfl) (fun _ _ _ h => h) (by rfl) (fun W hW => x_load3 rfl (by kernel_rfl) hW.2.2) hHeld ?_
                      simp only [Act.put, List.setIfInBounds_toArray, List.set_cons_zero, List.set_cons_succ]
                      refine takeH (i := 6) (some 145) (.pointer (some ⟨b, 0, none⟩)) rfl rfl (by kernel_rfl) (by kernel_rfl) (by kernel_rfl) (fun _ _ _ h => h) (by rfl) (fun W hW => x_move rfl (by kernel_rfl)) hHeld ?_
                      simp only [Act.put, List.setIfInBounds_toArray, List.set_cons_zero, List.set_cons_succ]
                      refine takeH (i := 7) (some 146) (.pointer (some ⟨b, 0, none⟩)) rfl rfl (by kernel_rfl) (by kernel_rfl) (by kernel_rfl) (fun _ _ _ h => h) (by rfl) (fun W hW => x_nil rfl (by kernel_rfl)) hHeld ?_
                      simp only [Act.put, List.setIfInBounds_toArray, List.set_cons_zero, List.set_cons_succ]
                      refine takeH (i := 8) (some 147) (.pointer (some ⟨b, 1, none⟩)) rfl rfl (by kernel_rfl) (by kernel_rfl) (by kernel_rfl) (fun _ _ _ h => h) (by rfl) (fun W hW => x_field51 rfl (.inr (.inl rfl)) (by kernel_rfl)) hHeld ?_
                      simp only [Act.put, List.setIfInBounds_toArray, List.set_cons_zero, List.set_cons_succ]
                      refine takeH (i := 9) (some 148) (.int .i64 (i : Nat)) rfl rfl (by kernel_rfl) (by kernel_rfl) (by kernel_rfl) (fun _ _ _ h => h) (by rfl) (fun W hW => x_load3 rfl (by kernel_rfl) hW.2.1) hHeld ?_
                      simp only [Act.put, List.setIfInBounds_toArray, List.set_cons_zero, List.set_cons_succ]
                      refine takeH (i := 10) (some 149) (.string (s.extract q i)) rfl rfl (by kernel_rfl) (by kernel_rfl) (by kernel_rfl) (fun _ _ _ h => h) (by rfl) (fun W hW => x_slice rfl (by kernel_rfl) (by kernel_rfl) (by kernel_rfl) hqi2 his2) hHeld ?_
                      simp only [Act.put, List.setIfInBounds_toArray, List.set_cons_zero, List.set_cons_succ]
                      refine wpAnyH_ready (rs := [11, 15]) (by kernel_rfl) (by simp) ?_
                      refine AllReadyH.cons rfl (fun K hK => ?_) (AllReadyH.cons rfl (fun K hK => ?_) AllReadyH.nil)
                      · refine step_call rfl (some 150) rfl (x_call33 rfl (by kernel_rfl)) (R := fun v w2 => ∃ (K' N Bt : Int) (ok2 : Bool), v = .tuple #[.agg (vcells K' N Bt), .bool ok2] ∧ NumOk (exTV pf (s.extract q i).data.toList) K' N Bt ok2 ∧ TkW b s i false w 0 ⟨#[]⟩ 0 0 (q : Nat) w2 ∧ Below (wr.drewN n9 |>.drew).heap.size (wr.drewN n9 |>.drew) w2) ((HNC.out _ HT2.out.drew).mono (by rintro e2 w2 ⟨K', N, Bt, ok2, rfl, h1, h2, h3⟩; exact ⟨_, rfl, K', N, Bt, ok2, rfl, h1, h2, h3⟩)) ?_
                        rintro v2 w2 ⟨K', N, Bt, ok2, rfl, hno, hT3, hbel⟩
                        refine hK.out _ _ (tk_S hT3) (fun hHeld => ?_)
                        clear hK K
                        have HNO := Lib.hid hno
                        have HT3 := Lib.hid hT3
                        have HBL := Lib.hid hbel
                        clear hno hT3 hbel
                        simp only [Act.put, List.setIfInBounds_toArray, List.set_cons_zero, List.set_cons_succ]
                        refine takeH (i := 12) (some 138) (.tuple #[.agg (vcells K' N Bt), .bool ok2]) rfl rfl (by kernel_rfl) (by kernel_rfl) (by kernel_rfl) (fun _ _ _ h => h) (by rfl) (fun W hW => x_move rfl (by kernel_rfl)) hHeld ?_
                        simp only [Act.put, List.setIfInBounds_toArray, List.set_cons_zero, List.set_cons_succ]
                        refine takeH (i := 13) (some 151) (.agg (vcells K' N Bt)) rfl rfl (by kernel_rfl) (by kernel_rfl) (by kernel_rfl) (fun _ _ _ h => h) (by rfl) (fun W hW => x_extract (vs := #[.agg (vcells K' N Bt), .bool ok2]) rfl (by kernel_rfl) rfl) hHeld ?_
                        simp only [Act.put, List.setIfInBounds_toArray, List.set_cons_zero, List.set_cons_succ]
                        refine takeH (i := 14) (some 152) (.bool ok2) rfl rfl (by kernel_rfl) (by kernel_rfl) (by kernel_rfl) (fun _ _ _ h => h) (by rfl) (fun W hW => x_extract (vs := #[.agg (vcells K' N Bt), .bool ok2]) rfl (by kernel_rfl) rfl) hHeld ?_
                        simp only [Act.put, List.setIfInBounds_toArray, List.set_cons_zero, List.set_cons_succ]
                        refine wpAnyH_ready (rs := [15]) (by kernel_rfl) (by simp) ?_
                        refine AllReadyH.cons rfl (fun K hK => ?_) AllReadyH.nil
                        refine step_value rfl (some 11) rfl (x_alloc82 rfl) ?_
                        have HT4 := Lib.hid (tk_alloc HT3.out (.cells zeroVal 82))
                        have hg0 : (w2.alloc (.cells zeroVal 82)).heap[w2.heap.size]? = some (.cells zeroVal 82 (0, 0)) := heap_alloc_new w2 _
                        have hgl : w.heap.size + 1 < w2.heap.size := lt_of_heap HT3.out.t0
                        have HG0 := Lib.hid hg0
                        clear hg0
                        refine hK.out _ _ (tk_S HT4.out) (fun hHeld => ?_)
                        clear hK K
                        simp only [Act.put, List.setIfInBounds_toArray, List.set_cons_zero, List.set_cons_succ]
                        refine wpAnyH_ready (rs := [16]) (by kernel_rfl) (by simp) ?_
                        refine AllReadyH.cons rfl (fun K hK => ?_) AllReadyH.nil
                        refine step_storeH rfl rfl 82 (.tmp 11) (.tmp 151) rfl (w2.heap.size) (vcells K' N Bt) (by kernel_rfl) (by kernel_rfl) 82 zeroVal HG0.out size82 rfl (vcells_one _ _ _) ?_
                        refine hK.out _ _ (tk_S (HT4.out.row hgl _)) (fun hHeld => ?_)
                        clear hK K
                        refine takeH (i := 17) (some 12) (.bool ok2) rfl rfl (by kernel_rfl) (by kernel_rfl) (by kernel_rfl) (fun _ _ _ h => h) (by rfl) (fun W hW => x_assign rfl (by kernel_rfl)) hHeld ?_
                        simp only [Act.put, List.setIfInBounds_toArray, List.set_cons_zero, List.set_cons_succ]
                        refine wpAnyH_done (by kernel_rfl) ?_ _
                        go_wp2
                        go_meet
                        exact ⟨K', N, Bt, ok2, w2.heap.size, rfl, rfl, HNO.out, setRow_heap _ _ _ _ _ _ HG0.out, hgl, HT4.out.row hgl _⟩
                      · refine step_value rfl (some 11) rfl (x_alloc82 rfl) ?_
                        have HTB := Lib.hid (tk_alloc HT2.out.drew (.cells zeroVal 82))
                        obtain ⟨gB, hgB⟩ : ∃ gB, (wr.drewN n9).drew.heap.size = gB := ⟨_, rfl⟩
                        have hg0 : ((wr.drewN n9).drew.alloc (.cells zeroVal 82)).heap[gB]? = some (.cells zeroVal 82 (0, 0)) := by rw [← hgB]; exact heap_alloc_new _ _
                        have hgl : w.heap.size + 1 < gB := by rw [← hgB]; exact lt_of_heap HT2.out.drew.t0
                        rw [hgB]
                        have HG0 := Lib.hid hg0
                        clear hg0
                        refine hK.out _ _ (tk_S HTB.out) (fun hHeld => ?_)
                        clear hK K
                        simp only [Act.put, List.setIfInBounds_toArray, List.set_cons_zero, List.set_cons_succ]
                        refine wpAnyH_ready (rs := [11]) (by kernel_rfl) (by simp) ?_
                        refine AllReadyH.cons rfl (fun K hK => ?_) AllReadyH.nil
                        refine step_call rfl (some 150) rfl (x_call33 rfl (by kernel_rfl)) (R := fun v w2 => ∃ (K' N Bt : Int) (ok2 : Bool), v = .tuple #[.agg (vcells K' N Bt), .bool ok2] ∧ NumOk (exTV pf (s.extract q i).data.toList) K' N Bt ok2 ∧ TkW b s i false w 0 ⟨#[]⟩ 0 0 (q : Nat) w2 ∧ Below ((wr.drewN n9).drew.alloc (.cells zeroVal 82)).heap.size ((wr.drewN n9).drew.alloc (.cells zeroVal 82)) w2) ((HNC.out _ HTB.out).mono (by rintro e2 w2 ⟨K', N, Bt, ok2, rfl, h1, h2, h3⟩; exact ⟨_, rfl, K', N, Bt, ok2, rfl, h1, h2, h3⟩)) ?_
                        rintro v2 w2 ⟨K', N, Bt, ok2, rfl, hno, hT3, hbel⟩
                        refine hK.out _ _ (tk_S hT3) (fun hHeld => ?_)
                        clear hK K
                        have HNO := Lib.hid hno
                        have HT3 := Lib.hid hT3
                        have HBL := Lib.hid hbel
                        clear hno hT3 hbel
                        have HT4 := HT3
                        have HG1 := Lib.hid ((HBL.out.block gB (lt_of_heap HG0.out)).trans HG0.out)
                        simp only [Act.put, List.setIfInBounds_toArray, List.set_cons_zero, List.set_cons_succ]
                        refine takeH (i := 12) (some 138) (.tuple #[.agg (vcells K' N Bt), .bool ok2]) rfl rfl (by kernel_rfl) (by kernel_rfl) (by kernel_rfl) (fun _ _ _ h => h) (by rfl) (fun W hW => x_move rfl (by kernel_rfl)) hHeld ?_
                        simp only [Act.put, List.setIfInBounds_toArray, List.set_cons_zero, List.set_cons_succ]
                        refine takeH (i := 13) (some 151) (.agg (vcells K' N Bt)) rfl rfl (by kernel_rfl) (by kernel_rfl) (by kernel_rfl) (fun _ _ _ h => h) (by rfl) (fun W hW => x_extract (vs := #[.agg (vcells K' N Bt), .bool ok2]) rfl (by kernel_rfl) rfl) hHeld ?_
                        simp only [Act.put, List.setIfInBounds_toArray, List.set_cons_zero, List.set_cons_succ]
                        refine takeH (i := 14) (some 152) (.bool ok2) rfl rfl (by kernel_rfl) (by kernel_rfl) (by kernel_rfl) (fun _ _ _ h => h) (by rfl) (fun W hW => x_extract (vs := #[.agg (vcells K' N Bt), .bool ok2]) rfl (by kernel_rfl) rfl) hHeld ?_
                        simp only [Act.put, List.setIfInBounds_toArray, List.set_cons_zero, List.set_cons_succ]
                        refine wpAnyH_ready (rs := [16]) (by kernel_rfl) (by simp) ?_
                        refine AllReadyH.cons rfl (fun K hK => ?_) AllReadyH.nil
                        refine step_storeH rfl rfl 82 (.tmp 11) (.tmp 151) rfl (gB) (vcells K' N Bt) (by kernel_rfl) (by kernel_rfl) 82 zeroVal HG1.out size82 rfl (vcells_one _ _ _) ?_
                        refine hK.out _ _ (tk_S (HT4.out.row hgl _)) (fun hHeld => ?_)
                        clear hK K
                        refine takeH (i := 17) (some 12) (.bool ok2) rfl rfl (by kernel_rfl) (by kernel_rfl) (by kernel_rfl) (fun _ _ _ h => h) (by rfl) (fun W hW => x_assign rfl (by kernel_rfl)) hHeld ?_
                        simp only [Act.put, List.setIfInBounds_toArray, List.set_cons_zero, List.set_cons_succ]
                        refine wpAnyH_done (by kernel_rfl) ?_ _
                        go_wp2
                        go_meet
                        exact ⟨K', N, Bt, ok2, gB, rfl, rfl, HNO.out, setRow_heap _ _ _ _ _ _ HG1.out, hgl, HT4.out.row hgl _⟩
                    case rest =>
                      as_aux_lemma =>
                      obtain ⟨K, N, Bt, ok2, g, rfl, rfl, hno, hg, hgl, hT3⟩ := hcut.out
                      have HNO := Lib.hid hno
                      have HT3 := Lib.hid hT3
                      clear hno hT3 hcut c0 c1 c2 cf t0 t1 t2 t3 t4 tf
                      obtain ⟨t0, t1, t2, t3, t4, tf⟩ := cells5 HT3.out.t0
                      obtain ⟨v0, v3, v4, vf⟩ := vcells_at hg
                      clear hg
                      by_cases h16 : K = 16
                      · subst h16
                        as_aux_lemma =>
                        have HT4 := Lib.hid ((HT3.out.drew.put (K' := 6) (txt' := ⟨#[]⟩) (N' := 0) (B' := 0) (At' := (q : Nat)) 0 (.int .i64 6) rfl).put (K' := 6) (txt' := ⟨#[]⟩) (N' := N) (B' := 0) (At' := (q : Nat)) 2 (.int .i64 N) rfl)
                        go_wp2
                        go_region_with (fail)
                        all_goals
                          go_wp2_with (first | (refine wpList_load_row rfl 29 (.tmp 4) rfl _ rfl 29 (tcells 6 ⟨#[]⟩ N 0 (q : Nat)) (0, 0) _ (TkW.t0 HT4.out) Tryz.underlying29 rfl size29 ?_) | (refine wpList_store_row rfl 29 (.tmp 2) (.tmp 171) rfl _ (tcells 6 ⟨#[]⟩ N 0 (q : Nat)) rfl rfl 29 (tcells 0 ⟨#[]⟩ 0 0 0) (TkW.r0 HT4.out) size29 rfl (tcells_one _ _ _ _ _) ?_))
                          exact bodyPost_ret (results_cell_tmp Tryz.results17 _ _ w.heap.size 29 (tcells 6 ⟨#[]⟩ N 0 (q : Nat)) (0, 0) _ rfl (HT4.out.retRow _).1 Tryz.underlying29 rfl size29 (.bool ok2) rfl) rfl (tok_ret HT4.out his _ (fun h => by cases h) fun _ => (num_tok HNO.out HEE.out).1 rfl)
                      · have k16 : (K == 16) = false := by simp only [beq_eq_false_iff_ne, ne_eq]; exact h16
                        by_cases h18 : K = 18
                        · subst h18
                          clear h16
                          as_aux_lemma =>
                          have HT4 := Lib.hid ((HT3.out.drew.put (K' := 7) (txt' := ⟨#[]⟩) (N' := 0) (B' := 0) (At' := (q : Nat)) 0 (.int .i64 7) rfl).put (K' := 7) (txt' := ⟨#[]⟩) (N' := N) (B' := 0) (At' := (q : Nat)) 2 (.int .i64 N) rfl)
                          go_wp2
                          go_region_with (fail)
                          all_goals
                            go_wp2_with (first | (refine wpList_load_row rfl 29 (.tmp 4) rfl _ rfl 29 (tcells 7 ⟨#[]⟩ N 0 (q : Nat)) (0, 0) _ (TkW.t0 HT4.out) Tryz.underlying29 rfl size29 ?_) | (refine wpList_store_row rfl 29 (.tmp 2) (.tmp 171) rfl _ (tcells 7 ⟨#[]⟩ N 0 (q : Nat)) rfl rfl 29 (tcells 0 ⟨#[]⟩ 0 0 0) (TkW.r0 HT4.out) size29 rfl (tcells_one _ _ _ _ _) ?_))
                            exact bodyPost_ret (results_cell_tmp Tryz.results17 _ _ w.heap.size 29 (tcells 7 ⟨#[]⟩ N 0 (q : Nat)) (0, 0) _ rfl (HT4.out.retRow _).1 Tryz.underlying29 rfl size29 (.bool ok2) rfl) rfl (tok_ret HT4.out his _ (fun h => by cases h) fun _ => (num_tok HNO.out HEE.out).2.1 rfl)
                        · have k18 : (K == 18) = false := by simp only [beq_eq_false_iff_ne, ne_eq]; exact h18
                          have HKK := Lib.hid (And.intro h16 h18)
                          clear h16 h18
                          as_aux_lemma =>
                          have HT4 := Lib.hid ((HT3.out.drew.put (K' := 8) (txt' := ⟨#[]⟩) (N' := 0) (B' := 0) (At' := (q : Nat)) 0 (.int .i64 8) rfl).put (K' := 8) (txt' := ⟨#[]⟩) (N' := 0) (B' := Bt) (At' := (q : Nat)) 3 (.int .u64 Bt) rfl)
                          go_wp2
                          go_region_with (fail)
                          all_goals
                            go_wp2_with (first | (refine wpList_load_row rfl 29 (.tmp 4) rfl _ rfl 29 (tcells 8 ⟨#[]⟩ 0 Bt (q : Nat)) (0, 0) _ (TkW.t0 HT4.out) Tryz.underlying29 rfl size29 ?_) | (refine wpList_store_row rfl 29 (.tmp 2) (.tmp 171) rfl _ (tcells 8 ⟨#[]⟩ 0 Bt (q : Nat)) rfl rfl 29 (tcells 0 ⟨#[]⟩ 0 0 0) (TkW.r0 HT4.out) size29 rfl (tcells_one _ _ _ _ _) ?_))
                            exact bodyPost_ret (results_cell_tmp Tryz.results17 _ _ w.heap.size 29 (tcells 8 ⟨#[]⟩ 0 Bt (q : Nat)) (0, 0) _ rfl (HT4.out.retRow _).1 Tryz.underlying29 rfl size29 (.bool ok2) rfl) rfl (tok_ret HT4.out his _ (fun h => by cases h) fun _ => (num_tok HNO.out HEE.out).2.2 HKK.out.1 HKK.out.2)
            · have HE2 : Hid (E = .err) := Lib.hid (HE.out.symm.trans (tok_err _ _ _ (fun j hj => HNE.out j hj) h34 hnum HN1.out.1 HN1.out.2.1 HN1.out.2.2))
              have n45 : ((c.toNat : Int) != 45) = true := by
                simp only [bne_iff_ne, ne_eq]
                intro h
                exact hnum (.inl (UInt8.toNat_inj.1 (show c.toNat = 45 by omega)))
              by_cases hlo : (c.toNat : Int) < 48
              · have hlod : decide ((c.toNat : Int) < 48) = true := decide_eq_true hlo
                clear hnum hlo
                as_aux_lemma =>
                go_wp2_with (first | (refine wpList_load_row rfl 29 (.tmp 4) rfl _ rfl 29 (tcells 0 ⟨#[]⟩ 0 0 (q : Nat)) (0, 0) _ (TkW.t0 H3.out) Tryz.underlying29 rfl size29 ?_) | (refine wpList_store_row rfl 29 (.tmp 2) (.tmp 127) rfl _ (tcells 0 ⟨#[]⟩ 0 0 (q : Nat)) rfl rfl 29 (tcells 0 ⟨#[]⟩ 0 0 0) (TkW.r0 H3.out) size29 rfl (tcells_one _ _ _ _ _) ?_))
                exact bodyPost_ret (results_cell_tmp Tryz.results17 _ _ w.heap.size 29 (tcells 0 ⟨#[]⟩ 0 0 (q : Nat)) (0, 0) _ rfl (H3.out.retRow _).1 Tryz.underlying29 rfl size29 (.bool false) rfl) rfl (tok_ret H3.out (by omega) _ (fun _ => rfl) fun _ => by rw [HE2.out]; exact rfl)
              · have hlod : decide ((c.toNat : Int) < 48) = false := decide_eq_false hlo
                have hhi : decide ((57 : Int) < c.toNat) = true := decide_eq_true (by
                  have : ¬ (48 ≤ c.toNat ∧ c.toNat ≤ 57) := fun h => hnum (.inr h)
                  omega)
                clear hnum hlo
                as_aux_lemma =>
                go_wp2_with (first | (refine wpList_load_row rfl 29 (.tmp 4) rfl _ rfl 29 (tcells 0 ⟨#[]⟩ 0 0 (q : Nat)) (0, 0) _ (TkW.t0 H3.out) Tryz.underlying29 rfl size29 ?_) | (refine wpList_store_row rfl 29 (.tmp 2) (.tmp 127) rfl _ (tcells 0 ⟨#[]⟩ 0 0 (q : Nat)) rfl rfl 29 (tcells 0 ⟨#[]⟩ 0 0 0) (TkW.r0 H3.out) size29 rfl (tcells_one _ _ _ _ _) ?_))
                exact bodyPost_ret (results_cell_tmp Tryz.results17 _ _ w.heap.size 29 (tcells 0 ⟨#[]⟩ 0 0 (q : Nat)) (0, 0) _ rfl (H3.out.retRow _).1 Tryz.underlying29 rfl size29 (.bool false) rfl) rfl (tok_ret H3.out (by omega) _ (fun _ => rfl) fun _ => by rw [HE2.out]; exact rfl)

end Go.Proofs.YtdabllkphibfmaaGreatDoor
