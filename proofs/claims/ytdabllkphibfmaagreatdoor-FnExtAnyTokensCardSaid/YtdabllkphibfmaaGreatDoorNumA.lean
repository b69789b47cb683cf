/- What a number's scan keeps, round for round; ParseInt and ParseFloat as it meets them. -/
import Derived.Test.YtdabllkphibfmaaGreatDoorNumP
import Derived.Test.YtdabllkphibfmaaGreatDoorLitC
import Derived.Test.YtdabllkphibfmaaGreatDoorPint
import Derived.Lib.ConvBytes
namespace Go.Proofs.YtdabllkphibfmaaGreatDoor
open Go Go.RowKit

/-- What ParseFloat gives, in every world that has what w0 had. -/
def PfPost (B : Nat) (w : World) (r : Option Nat) (e : Ending) (w' : World) : Prop :=
  (∃ b ev, e = .returned (.tuple #[.float .f64 b, ev]) ∧ (match r with | some b' => b = b' ∧ ev = .nilIface | none => ∃ t y, ev = .iface t y)) ∧ Below B w w'
def PfC (w0 : World) (pf : PF) : Prop :=
  ∀ (txt : List UInt8) (w : World) (r : Option Nat), Old w0 w → pf txt = some r → Calls Tryz.prog 28 #[.string ⟨txt.toArray⟩, .int .i64 64] w (PfPost w.heap.size w r)

/-- What ParseInt gives. -/
def PiPost (B : Nat) (w : World) (r : Lib.NumEnd Int) (e : Ending) (w' : World) : Prop :=
  (∃ v ev, e = .returned (.tuple #[.int .i64 v, ev]) ∧ (match r with | .ok v' => v = v' ∧ ev = .nilIface | _ => ∃ t y, ev = .iface t y)) ∧ Below B w w'

theorem Old.cell {w0 w : World} (h : Old w0 w) {g o : Nat} {v : Value} (hc : w0.cell? ⟨g, o, none⟩ = some v) : w.cell? ⟨g, o, none⟩ = some v :=
  (World.cell?_of_block (a := ⟨g, o, none⟩) (h.block g (World.block_lt_of_cell? w0 ⟨g, o, none⟩ hc))).trans hc

/-- The sentinels of strconv lie in w0. -/
def NumVars (w0 : World) : Prop := (∃ t y, w0.cell? ⟨4, 0, none⟩ = some (.iface t y)) ∧ (∃ t y, w0.cell? ⟨5, 0, none⟩ = some (.iface t y))

theorem parseInt (w0 : World) (hv : NumVars w0) (txt : List UInt8) (hl : txt.length ≤ 1000000) (w : World) (ho : Old w0 w) : Calls Tryz.prog 74 #[.string ⟨txt.toArray⟩, .int .i64 10, .int .i64 64] w (PiPost w.heap.size w (Lib.parseIntB 64 txt)) := by
  have hs : (⟨txt.toArray⟩ : ByteArray).size ≤ 1000000 := by simpa [ByteArray.size] using hl
  obtain ⟨⟨t4, y4, h4⟩, ⟨t5, y5, h5⟩⟩ := hv
  cases hp : Lib.parseIntB 64 txt with
  | ok v =>
    refine (Tryz.strconv_ParseInt_10_at64_ok ⟨txt.toArray⟩ (by omega) v hp w).mono ?_
    rintro e w' ⟨rfl, hw⟩
    refine ⟨⟨_, _, rfl, rfl, rfl⟩, ?_⟩
    rcases hw with rfl | ⟨t, rfl⟩
    · exact Below.refl _ _
    · exact Lib.bytesWorld_below _ _ _
  | range =>
    refine (Tryz.strconv_ParseInt_10_at64_range ⟨txt.toArray⟩ (by omega) hp _ w (ho.cell h5) (.inr ⟨_, _, rfl⟩)).mono ?_
    rintro e w' ⟨N, rfl, _, _, hb⟩
    exact ⟨⟨_, _, rfl, _, _, rfl⟩, hb⟩
  | _ =>
    refine (Tryz.strconv_ParseInt_10_at64_none ⟨txt.toArray⟩ (by omega) (fun v h => by have h2 := hp.symm.trans h; cases h2) (fun h => by have h2 := hp.symm.trans h; cases h2) _ w (ho.cell h4) (.inr ⟨_, _, rfl⟩)).mono ?_
    rintro e w' ⟨N, rfl, _, _, hb⟩
    exact ⟨⟨_, _, rfl, _, _, rfl⟩, hb⟩

abbrev NumE := Option (List UInt8 × Bool × List UInt8)

/-- The kind of a number, as far as it is known in a state. -/
def KindOk (st t : Nat) : Prop := st ≤ 7 ∧ (t = 7 ∨ t = 8) ∧ (st ≤ 3 → t = 7) ∧ (st = 4 ∨ st = 6 ∨ st = 7 → t = 8)

/-- The state of a number's scan: acc is written, q bytes of the text are behind; what is still to come ends as E. -/
structure Sc.Nm (s : Sc) (g : Option Nat) (w : World) (E : NumE) (q : Nat) (acc : List UInt8) (st t : Nat) (wx : World) : Prop where
  q0 : 0 < q
  qn : q ≤ s.T.length
  sc : ∃ p, s.St g q p wx
  buf : Lib.IsBuffer 107 5 w.heap.size w.heap.size (Lib.byteCells acc) wx
  len : acc.length ≤ q
  run : numRun acc st (s.T.drop q) = E
  fr : Fr (s.S g) w wx
  kind : KindOk st t

/-- Behind the switch: on, ended, or no number. -/
inductive Sc.Mid (s : Sc) (g : Option Nat) (w : World) (E : NumE) (q p : Nat) (x : UInt8) (eb : Bool) (acc : List UInt8) (v7 v10 : Value) (wx : World) : Prop
  | go (st t : Nat) (h7 : v7 = .int .u8 st) (h10 : v10 = .int .u8 t) (h : s.Nm g w E (q + 1) (acc ++ [x]) st t wx)
  | bad (t : Nat) (h7 : v7 = .int .u8 9) (h10 : v10 = .int .u8 t) (hE : E = none) (hf : Fr (s.S g) w wx)
  | done (t : Nat) (h7 : v7 = .int .u8 8) (h10 : v10 = .int .u8 t) (ht : t = 7 ∨ t = 8) (hE : E = some (acc, decide (t = 8), s.T.drop q)) (hg : s.Got g q x eb p wx) (hb : Lib.IsBuffer 107 5 w.heap.size w.heap.size (Lib.byteCells acc) wx) (hf : Fr (s.S g) w wx)

theorem numRun_step {acc : List UInt8} {st : Nat} {c : UInt8} {r : List UInt8} {E : NumE} (h : numRun acc st (c :: r) = E) :
    (∀ st', numStep st c = .go st' → numRun (acc ++ [c]) st' r = E) ∧ (numStep st c = .done → E = some (acc, decide (2 < st), c :: r)) ∧ (numStep st c = .bad → E = none) := by
  refine ⟨fun st' hs => ?_, fun hs => ?_, fun hs => ?_⟩ <;> simp only [numRun, hs] at h
  · exact h
  · exact h.symm
  · exact h.symm

theorem Sc.Mid.of_go {s : Sc} {g : Option Nat} {w wr w1 w2 : World} {E : NumE} {q p : Nat} {x : UInt8} {acc : List UInt8} {st t : Nat} {v7 v10 : Value} (st' t' : Nat) (hl : ∃ q0 p0, s.St g q0 p0 w)
    (h : s.Nm g w E q acc st t wr) (h4 : s.Got g q x false p w1) (h5 : Fr (s.S g) wr w1) (hb : Lib.IsBuffer 107 5 w.heap.size w.heap.size (Lib.byteCells acc ++ [.int .u8 (x.toNat : Int)]) w2) (hbel : Below w.heap.size w1 w2) (hs : numStep st x = .go st') (hk : KindOk st' t')
    (h7 : v7 = .int .u8 st') (h10 : v10 = .int .u8 t') : s.Mid g w E q p x false acc v7 v10 w2 := by
  obtain ⟨q0, p0, hl⟩ := hl
  rcases h4 with ⟨_, ⟨hq, hx⟩, hp, hst⟩ | ⟨h, _⟩
  · have hd : s.T.drop q = x :: s.T.drop (q + 1) := by rw [List.drop_eq_getElem_cons hq, hx]
    refine .go st' t' h7 h10 ⟨by omega, by omega, ⟨p, st_below hl hst hbel⟩, ?_, by have := h.len; simp; omega, (numRun_step (by rw [← hd]; exact h.run)).1 st' hs, (h.fr.trans h5).then_below hbel, hk⟩
    have e : Lib.byteCells (acc ++ [x]) = Lib.byteCells acc ++ [.int .u8 (x.toNat : Int)] := by simp [Lib.byteCells]
    rw [e]
    exact hb
  · cases h

theorem Sc.Mid.of_bad {s : Sc} {g : Option Nat} {w wr w1 : World} {E : NumE} {q p : Nat} {x : UInt8} {eb : Bool} {acc : List UInt8} {st t : Nat} {v7 v10 : Value} (t' : Nat)
    (h : s.Nm g w E q acc st t wr) (h4 : s.Got g q x eb p w1) (h5 : Fr (s.S g) wr w1) (hs : (eb = false → numStep st x = .bad) ∧ (eb = true → numEnds st = false))
    (h7 : v7 = .int .u8 9) (h10 : v10 = .int .u8 t') : s.Mid g w E q p x eb acc v7 v10 w1 := by
  refine .bad t' h7 h10 ?_ (h.fr.trans h5)
  rcases got_rest h4 with ⟨he, hd, _⟩ | ⟨he, hd⟩
  · have := h.run
    rw [hd] at this
    simp only [numRun, hs.2 he] at this
    exact this.symm
  · exact (numRun_step (by rw [← hd]; exact h.run)).2.2 (hs.1 he)

theorem Sc.Mid.of_done {s : Sc} {g : Option Nat} {w wr w1 : World} {E : NumE} {q p : Nat} {x : UInt8} {eb : Bool} {acc : List UInt8} {st t : Nat} {v7 v10 : Value} (t' : Nat) (hl : ∃ q0 p0, s.St g q0 p0 w)
    (h : s.Nm g w E q acc st t wr) (h4 : s.Got g q x eb p w1) (h5 : Fr (s.S g) wr w1) (hs : (eb = false → numStep st x = .done) ∧ (eb = true → numEnds st = true)) (ht : t' = 7 ∨ t' = 8) (hd2 : decide (t' = 8) = decide (2 < st))
    (h7 : v7 = .int .u8 8) (h10 : v10 = .int .u8 t') : s.Mid g w E q p x eb acc v7 v10 w1 := by
  obtain ⟨q0, p0, hl⟩ := hl
  refine .done t' h7 h10 ht ?_ h4 (buf_read hl h.buf h5) (h.fr.trans h5)
  rw [hd2]
  rcases got_rest h4 with ⟨he, hd, _⟩ | ⟨he, hd⟩
  · have := h.run
    rw [hd] at this ⊢
    simp only [numRun, hs.2 he, if_true] at this
    exact this.symm
  · have hr : numRun acc st (x :: s.T.drop (q + 1)) = E := by rw [← hd]; exact h.run
    rw [(numRun_step hr).2.1 (hs.1 he), hd]

theorem blank_cases {x : UInt8} (h : isBlank x = true) : x = 32 ∨ x = 9 ∨ x = 13 ∨ x = 10 := by
  simp only [isBlank, Bool.or_eq_true, beq_iff_eq] at h
  rcases h with ((h | h) | h) | h <;> simp [h]

end Go.Proofs.YtdabllkphibfmaaGreatDoor
