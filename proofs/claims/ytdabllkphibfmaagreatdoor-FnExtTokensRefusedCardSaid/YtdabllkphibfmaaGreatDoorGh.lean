/- Numbers of JSON, byte by byte: plain functions. What a number with a point or an exponent is read as is a parameter. -/
import Derived.Test.YtdabllkphibfmaaGreatDoorGg
import Derived.Lib.ParseIntB
import Derived.Shelf.LaysC
import Derived.Shelf.Strconv.ParseIntPublic10
import Derived.Test.YtdabllkphibfmaaGreatDoorProg
import Derived.Lib.ConvBytes
namespace Go.Proofs.YtdabllkphibfmaaGreatDoor
open Go Go.RowKit

def isDig (c : UInt8) : Bool := decide (48 ≤ c.toNat ∧ c.toNat ≤ 57)
def isExp (c : UInt8) : Bool := decide (c = 101 ∨ c = 69)

/-- What a byte makes of a number's state. -/
inductive NS
  | go (s : Nat) | done | bad

def numStep : Nat → UInt8 → NS
  | 0, c => if c = 48 then .go 1 else if isDig c then .go 2 else .bad
  | 1, c => if c = 46 then .go 3 else if isExp c then .go 5 else if isTerm c then .done else .bad
  | 2, c => if c = 46 then .go 3 else if isExp c then .go 5 else if isTerm c then .done else if isDig c then .go 2 else .bad
  | 3, c => if isDig c then .go 4 else .bad
  | 4, c => if isExp c then .go 5 else if isTerm c then .done else if isDig c then .go 4 else .bad
  | 5, c => if c = 43 ∨ c = 45 then .go 6 else if isDig c then .go 7 else .bad
  | 6, c => if isDig c then .go 7 else .bad
  | _, c => if isTerm c then .done else if isDig c then .go 7 else .bad

/-- May a number end here? -/
def numEnds (s : Nat) : Bool := s == 1 || s == 2 || s == 4 || s == 7

/-- The number's text, whether it has a point or an exponent, and what follows. -/
def numRun : List UInt8 → Nat → List UInt8 → Option (List UInt8 × Bool × List UInt8)
  | acc, s, [] => if numEnds s then some (acc, decide (2 < s), []) else none
  | acc, s, c :: r =>
    match numStep s c with
    | .go s' => numRun (acc ++ [c]) s' r
    | .done => some (acc, decide (2 < s), c :: r)
    | .bad => none

def numStart (c : UInt8) : Nat := if c = 45 then 0 else if c = 48 then 1 else 2

/-- A number as a float: not told, an error, or its bits. -/
abbrev PF := List UInt8 → Option (Option Nat)

def numFloat (pf : PF) (txt rest : List UInt8) : SubEnd :=
  match pf txt with
  | none => .out
  | some none => .err
  | some (some b) => .tok 8 (.f64 b) rest

def numVal (pf : PF) (txt : List UInt8) (dbl : Bool) (rest : List UInt8) : SubEnd :=
  if dbl then numFloat pf txt rest
  else
    match Lib.parseIntB 64 txt with
    | .ok v => if v < -2147483648 ∨ 2147483647 < v then .tok 7 (.i64 v) rest else .tok 6 (.i32 v) rest
    | _ => numFloat pf txt rest

def numEnd (pf : PF) : Option (List UInt8 × Bool × List UInt8) → SubEnd
  | none => .err
  | some (txt, dbl, rest) => numVal pf txt dbl rest

def numSub (pf : PF) (c : UInt8) (r : List UInt8) : SubEnd := numEnd pf (numRun [c] (numStart c) r)

end Go.Proofs.YtdabllkphibfmaaGreatDoor

/- strconv.ParseInt at ten and 64 off the shelf, at this translation (written by lay-plain.mjs, pruned). -/
namespace Go.Proofs
open Go.Shelf
def Tryz.laysC174_ren : Go.Shelf.Ren := ⟨fun | 174 => 74 | 247 => 87 | 245 => 41 | 287 => 109 | 279 => 56 | 280 => 57 | 281 => 58 | 282 => 59 | 321 => 113 | 322 => 114 | 316 => 79 | 171 => 80 | 205 => 54 | 243 => 101 | 246 => 126 | 283 => 133 | 284 => 134 | 285 => 135 | 286 => 136 | 129 => 115 | 317 => 139 | 318 => 119 | 319 => 140 | 320 => 141 | 337 => 142 | 338 => 143 | n => n, fun | 9 => 9 | 3 => 3 | 2 => 2 | 75 => 57 | 85 => 147 | 4 => 4 | 167 => 124 | 5 => 5 | 53 => 27 | 175 => 202 | 46 => 70 | 168 => 125 | 37 => 31 | 0 => 0 | 210 => 158 | 21 => 21 | 127 => 194 | 145 => 152 | 143 => 150 | 171 => 231 | 173 => 233 | 212 => 240 | 51 => 69 | 20 => 20 | 213 => 241 | 232 => 245 | 233 => 246 | 80 => 72 | n => n, fun | 15 => 4 | 16 => 5 | 17 => 17 | 18 => 18 | 19 => 19 | n => n⟩
theorem Tryz.laysC174 : Go.Proofs.LaysC.n174 Tryz.prog Tryz.laysC174_ren := {
  mixed := by kernel_rfl
  f129 := Tryz.func115.trans (congrArg some (by kernel_rfl))
  f171 := Tryz.func80.trans (congrArg some (by kernel_rfl))
  f174 := Tryz.func74.trans (congrArg some (by kernel_rfl))
  f205 := Tryz.func54.trans (congrArg some (by kernel_rfl))
  f243 := Tryz.func101.trans (congrArg some (by kernel_rfl))
  f245 := Tryz.func41.trans (congrArg some (by kernel_rfl))
  f246 := Tryz.func126.trans (congrArg some (by kernel_rfl))
  f247 := Tryz.func87.trans (congrArg some (by kernel_rfl))
  f279 := Tryz.func56.trans (congrArg some (by kernel_rfl))
  f280 := Tryz.func57.trans (congrArg some (by kernel_rfl))
  f281 := Tryz.func58.trans (congrArg some (by kernel_rfl))
  f282 := Tryz.func59.trans (congrArg some (by kernel_rfl))
  f283 := Tryz.func133.trans (congrArg some (by kernel_rfl))
  f284 := Tryz.func134.trans (congrArg some (by kernel_rfl))
  f285 := Tryz.func135.trans (congrArg some (by kernel_rfl))
  f286 := Tryz.func136.trans (congrArg some (by kernel_rfl))
  f287 := Tryz.func109.trans (congrArg some (by kernel_rfl))
  f316 := Tryz.func79.trans (congrArg some (by kernel_rfl))
  f317 := Tryz.func139.trans (congrArg some (by kernel_rfl))
  f318 := Tryz.func119.trans (congrArg some (by kernel_rfl))
  f319 := Tryz.func140.trans (congrArg some (by kernel_rfl))
  f320 := Tryz.func141.trans (congrArg some (by kernel_rfl))
  f321 := Tryz.func113.trans (congrArg some (by kernel_rfl))
  f322 := Tryz.func114.trans (congrArg some (by kernel_rfl))
  f337 := Tryz.func142.trans (congrArg some (by kernel_rfl))
  f338 := Tryz.func143.trans (congrArg some (by kernel_rfl))
  t0 := Tryz.underlying0
  a0 := Tryz.isAgg0
  z0 := Tryz.sizeOf0
  v0 := Tryz.zeroValue0
  t2 := Tryz.underlying2
  a2 := Tryz.isAgg2
  z2 := Tryz.sizeOf2
  v2 := Tryz.zeroValue2
  t3 := Tryz.underlying3
  a3 := Tryz.isAgg3
  z3 := Tryz.sizeOf3
  v3 := Tryz.zeroValue3
  t4 := Tryz.underlying4
  a4 := Tryz.isAgg4
  z4 := Tryz.sizeOf4
  v4 := Tryz.zeroValue4
  t5 := Tryz.underlying5
  a5 := Tryz.isAgg5
  z5 := Tryz.sizeOf5
  v5 := Tryz.zeroValue5
  t9 := Tryz.underlying9
  a9 := Tryz.isAgg9
  z9 := Tryz.sizeOf9
  v9 := Tryz.zeroValue9
  t20 := Tryz.underlying20
  a20 := Tryz.isAgg20
  z20 := Tryz.sizeOf20
  v20 := Tryz.zeroValue20
  t21 := Tryz.underlying21
  a21 := Tryz.isAgg21
  z21 := Tryz.sizeOf21
  v21 := Tryz.zeroValue21
  t37 := Tryz.underlying31
  a37 := Tryz.isAgg31
  z37 := Tryz.sizeOf31
  v37 := Tryz.zeroValue31
  t46 := Tryz.underlying70
  a46 := Tryz.isAgg70
  z46 := Tryz.sizeOf70
  v46 := Tryz.zeroValue70
  t51 := Tryz.underlying69
  a51 := Tryz.isAgg69
  z51 := Tryz.sizeOf69
  v51 := Tryz.zeroValue69
  t53 := Tryz.underlying27
  a53 := Tryz.isAgg27
  z53 := Tryz.sizeOf27
  v53 := Tryz.zeroValue27
  t75 := Tryz.underlying57
  a75 := Tryz.isAgg57
  z75 := Tryz.sizeOf57
  v75 := Tryz.zeroValue57
  t85 := Tryz.underlying147
  a85 := Tryz.isAgg147
  z85 := Tryz.sizeOf147
  v85 := Tryz.zeroValue147
  t127 := Tryz.underlying194
  a127 := Tryz.isAgg194
  z127 := Tryz.sizeOf194
  v127 := Tryz.zeroValue194
  t143 := Tryz.underlying150
  a143 := Tryz.isAgg150
  z143 := Tryz.sizeOf150
  v143 := Tryz.zeroValue150
  t145 := Tryz.underlying152
  a145 := Tryz.isAgg152
  z145 := Tryz.sizeOf152
  v145 := Tryz.zeroValue152
  t167 := Tryz.underlying124
  a167 := Tryz.isAgg124
  z167 := Tryz.sizeOf124
  v167 := Tryz.zeroValue124
  t168 := Tryz.underlying125
  a168 := Tryz.isAgg125
  z168 := Tryz.sizeOf125
  v168 := Tryz.zeroValue125
  t171 := Tryz.underlying231
  a171 := Tryz.isAgg231
  z171 := Tryz.sizeOf231
  v171 := Tryz.zeroValue231
  t173 := Tryz.underlying233
  a173 := Tryz.isAgg233
  z173 := Tryz.sizeOf233
  v173 := Tryz.zeroValue233
  t175 := Tryz.underlying202
  a175 := Tryz.isAgg202
  z175 := Tryz.sizeOf202
  v175 := Tryz.zeroValue202
  t210 := Tryz.underlying158
  a210 := Tryz.isAgg158
  z210 := Tryz.sizeOf158
  v210 := Tryz.zeroValue158
  t212 := Tryz.underlying240
  a212 := Tryz.isAgg240
  z212 := Tryz.sizeOf240
  v212 := Tryz.zeroValue240
  t213 := Tryz.underlying241
  a213 := Tryz.isAgg241
  z213 := Tryz.sizeOf241
  t232 := Tryz.underlying245
  a232 := Tryz.isAgg245
  z232 := Tryz.sizeOf245
  v232 := Tryz.zeroValue245
  t233 := Tryz.underlying246
  a233 := Tryz.isAgg246
  z233 := Tryz.sizeOf246
  v233 := Tryz.zeroValue246
  g15 := by kernel_rfl
  g16 := by kernel_rfl
  g17 := by kernel_rfl
  g18 := by kernel_rfl
  g19 := by kernel_rfl
  t80 := Tryz.underlying72
  a80 := Tryz.isAgg72
  z80 := Tryz.sizeOf72
  v80 := Tryz.zeroValue72
  i0 := by kernel_rfl
  i2 := by kernel_rfl
  i3 := by kernel_rfl
  i4 := by kernel_rfl
  i5 := by kernel_rfl
  i9 := by kernel_rfl
  i20 := by kernel_rfl
  i21 := by kernel_rfl
  i37 := by kernel_rfl
  i46 := by kernel_rfl
  i51 := by kernel_rfl
  i53 := by kernel_rfl
  i75 := by kernel_rfl
  i80 := by kernel_rfl
  i85 := by kernel_rfl
  i127 := by kernel_rfl
  i143 := by kernel_rfl
  i145 := by kernel_rfl
  i167 := by kernel_rfl
  i168 := by kernel_rfl
  i171 := by kernel_rfl
  i173 := by kernel_rfl
  i175 := by kernel_rfl
  i210 := by kernel_rfl
  i212 := by kernel_rfl
  i232 := by kernel_rfl
  i233 := by kernel_rfl
  m15 := by kernel_rfl
  m16 := by kernel_rfl
  m17 := by kernel_rfl
  m18 := by kernel_rfl
  m19 := by kernel_rfl
  c0 := by kernel_rfl
  c2 := by kernel_rfl
  c3 := by kernel_rfl
  c4 := by kernel_rfl
  c5 := by kernel_rfl
  c9 := by kernel_rfl
  c20 := by kernel_rfl
  c21 := by kernel_rfl
  c37 := by kernel_rfl
  c46 := by kernel_rfl
  c51 := by kernel_rfl
  c53 := by kernel_rfl
  c75 := by kernel_rfl
  c80 := by kernel_rfl
  c85 := by kernel_rfl
  c127 := by kernel_rfl
  c143 := by kernel_rfl
  c145 := by kernel_rfl
  c167 := by kernel_rfl
  c168 := by kernel_rfl
  c171 := by kernel_rfl
  c173 := by kernel_rfl
  c175 := by kernel_rfl
  c210 := by kernel_rfl
  c212 := by kernel_rfl
  c213 := by kernel_rfl
  c232 := by kernel_rfl
  c233 := by kernel_rfl }
open Go.RowKit in
theorem Tryz.strconv_ParseInt_10_at64_ok (s : ByteArray) (hmax : s.size ≤ 9223372036854775806) (v : Int) (h : Lib.parseIntB 64 s.data.toList = .ok v) (w : World) :
    Calls Tryz.prog 74 #[.string s, .int .i64 10, .int .i64 64] w fun e w' => e = .returned (.tuple #[.int .i64 v, .nilIface]) ∧ (w' = w ∨ ∃ t, w' = Lib.bytesWorld w 5 t) := Any.strconv_ParseInt_10_at64_ok Tryz.laysC174 s hmax v h w
open Go.RowKit in
theorem Tryz.strconv_ParseInt_10_at64_none (s : ByteArray) (hlim : s.size ≤ 281474976710656) (h1 : ∀ v, Lib.parseIntB 64 s.data.toList ≠ .ok v) (h2 : Lib.parseIntB 64 s.data.toList ≠ .range) (ev : Value) (w : World) (hv : w.cell? ⟨4, 0, none⟩ = some ev) (hev : ev = .nilIface ∨ ∃ te pe, ev = .iface te pe) :
    Calls Tryz.prog 74 #[.string s, .int .i64 10, .int .i64 64] w fun e w' => ∃ N, e = .returned (.tuple #[.int .i64 (0), .iface 125 (.pointer (some ⟨N, 0, none⟩))]) ∧ w.heap.size ≤ N ∧ w'.heap[N]? = some (.cells #[.string ⟨#[80, 97, 114, 115, 101, 73, 110, 116]⟩, .string s, ev] 158 (0, 0)) ∧ Below w.heap.size w w' := Any.strconv_ParseInt_10_at64_syntax Tryz.laysC174 s hlim (by cases hp : Lib.parseIntB 64 s.data.toList; exact absurd hp (h1 _); rfl; exact absurd hp h2) ev w hv hev
open Go.RowKit in
theorem Tryz.strconv_ParseInt_10_at64_range (s : ByteArray) (hlim : s.size ≤ 281474976710656) (h : Lib.parseIntB 64 s.data.toList = .range) (ev : Value) (w : World) (hv : w.cell? ⟨5, 0, none⟩ = some ev) (hev : ev = .nilIface ∨ ∃ te pe, ev = .iface te pe) :
    Calls Tryz.prog 74 #[.string s, .int .i64 10, .int .i64 64] w fun e w' => ∃ N, e = .returned (.tuple #[.int .i64 (Lib.intSat 64 s.data.toList), .iface 125 (.pointer (some ⟨N, 0, none⟩))]) ∧ w.heap.size ≤ N ∧ w'.heap[N]? = some (.cells #[.string ⟨#[80, 97, 114, 115, 101, 73, 110, 116]⟩, .string s, ev] 158 (0, 0)) ∧ Below w.heap.size w w' := Any.strconv_ParseInt_10_at64_range Tryz.laysC174 s hlim h ev w hv hev
end Go.Proofs

/- What a number's scan keeps, round for round; ParseInt and ParseFloat as it meets them. -/
namespace Go.Proofs.YtdabllkphibfmaaGreatDoor
open Go Go.RowKit

/-- What ParseFloat gives, in every world that has what w0 had. -/
def PfPost (B : Nat) (w : World) (r : Option Nat) (e : Ending) (w' : World) : Prop :=
  (∃ b ev, e = .returned (.tuple #[.float .f64 b, ev]) ∧ (match r with | some b' => b = b' ∧ ev = .nilIface | none => ∃ t y, ev = .iface t y)) ∧ Below B w w'
def PfC (w0 : World) (pf : PF) : Prop :=
  ∀ (txt : List UInt8) (w : World) (r : Option Nat), Old w0 w → pf txt = some r → Calls Tryz.prog 28 #[.string ⟨txt.toArray⟩, .int .i64 64] w (PfPost w.heap.size w r)

/-- What ParseInt gives. -/
def PiPost (B : Nat) (w : World) (r : Lib.NumEnd Int) (e : Ending) (w' : World) : Prop :=
  (∃ v ev, e = .returned (.tuple #[.int .i64 v, ev]) ∧ (match r with | .ok v' => v = v' ∧ ev = .nilIface | _ => ∃ t y, ev = .iface t y)) ∧ Below B w w'

theorem Old.cell {w0 w : World} (h : Old w0 w) {g o : Nat} {v : Value} (hc : w0.cell? ⟨g, o, none⟩ = some v) : w.cell? ⟨g, o, none⟩ = some v :=
  (World.cell?_of_block (a := ⟨g, o, none⟩) (h.block g (World.block_lt_of_cell? w0 ⟨g, o, none⟩ hc))).trans hc

/-- The sentinels of strconv lie in w0. -/
def NumVars (w0 : World) : Prop := (∃ t y, w0.cell? ⟨4, 0, none⟩ = some (.iface t y)) ∧ (∃ t y, w0.cell? ⟨5, 0, none⟩ = some (.iface t y))

theorem parseInt (w0 : World) (hv : NumVars w0) (txt : List UInt8) (hl : txt.length ≤ 1000000) (w : World) (ho : Old w0 w) : Calls Tryz.prog 74 #[.string ⟨txt.toArray⟩, .int .i64 10, .int .i64 64] w (PiPost w.heap.size w (Lib.parseIntB 64 txt)) := by
  have hs : (⟨txt.toArray⟩ : ByteArray).size ≤ 1000000 := by simpa [ByteArray.size] using hl
  obtain ⟨⟨t4, y4, h4⟩, ⟨t5, y5, h5⟩⟩ := hv
  cases hp : Lib.parseIntB 64 txt with
  | ok v =>
    refine (Tryz.strconv_ParseInt_10_at64_ok ⟨txt.toArray⟩ (by omega) v hp w).mono ?_
    rintro e w' ⟨rfl, hw⟩
    refine ⟨⟨_, _, rfl, rfl, rfl⟩, ?_⟩
    rcases hw with rfl | ⟨t, rfl⟩
    · exact Below.refl _ _
    · exact Lib.bytesWorld_below _ _ _
  | range =>
    refine (Tryz.strconv_ParseInt_10_at64_range ⟨txt.toArray⟩ (by omega) hp _ w (ho.cell h5) (.inr ⟨_, _, rfl⟩)).mono ?_
    rintro e w' ⟨N, rfl, _, _, hb⟩
    exact ⟨⟨_, _, rfl, _, _, rfl⟩, hb⟩
  | _ =>
    refine (Tryz.strconv_ParseInt_10_at64_none ⟨txt.toArray⟩ (by omega) (fun v h => by have h2 := hp.symm.trans h; cases h2) (fun h => by have h2 := hp.symm.trans h; cases h2) _ w (ho.cell h4) (.inr ⟨_, _, rfl⟩)).mono ?_
    rintro e w' ⟨N, rfl, _, _, hb⟩
    exact ⟨⟨_, _, rfl, _, _, rfl⟩, hb⟩

abbrev NumE := Option (List UInt8 × Bool × List UInt8)

/-- The kind of a number, as far as it is known in a state. -/
def KindOk (st t : Nat) : Prop := st ≤ 7 ∧ (t = 7 ∨ t = 8) ∧ (st ≤ 3 → t = 7) ∧ (st = 4 ∨ st = 6 ∨ st = 7 → t = 8)

/-- The state of a number's scan: acc is written, q bytes of the text are behind; what is still to come ends as E. -/
structure Sc.Nm (s : Sc) (g : Option Nat) (w : World) (E : NumE) (q : Nat) (acc : List UInt8) (st t : Nat) (wx : World) : Prop where
  q0 : 0 < q
  qn : q ≤ s.T.length
  sc : ∃ p, s.St g q p wx
  buf : Lib.IsBuffer 107 5 w.heap.size w.heap.size (Lib.byteCells acc) wx
  len : acc.length ≤ q
  run : numRun acc st (s.T.drop q) = E
  fr : Fr (s.S g) w wx
  kind : KindOk st t

/-- Behind the switch: on, ended, or no number. -/
inductive Sc.Mid (s : Sc) (g : Option Nat) (w : World) (E : NumE) (q p : Nat) (x : UInt8) (eb : Bool) (acc : List UInt8) (v7 v10 : Value) (wx : World) : Prop
  | go (st t : Nat) (h7 : v7 = .int .u8 st) (h10 : v10 = .int .u8 t) (h : s.Nm g w E (q + 1) (acc ++ [x]) st t wx)
  | bad (t : Nat) (h7 : v7 = .int .u8 9) (h10 : v10 = .int .u8 t) (hE : E = none) (hf : Fr (s.S g) w wx)
  | done (t : Nat) (h7 : v7 = .int .u8 8) (h10 : v10 = .int .u8 t) (ht : t = 7 ∨ t = 8) (hE : E = some (acc, decide (t = 8), s.T.drop q)) (hg : s.Got g q x eb p wx) (hb : Lib.IsBuffer 107 5 w.heap.size w.heap.size (Lib.byteCells acc) wx) (hf : Fr (s.S g) w wx)

theorem numRun_step {acc : List UInt8} {st : Nat} {c : UInt8} {r : List UInt8} {E : NumE} (h : numRun acc st (c :: r) = E) :
    (∀ st', numStep st c = .go st' → numRun (acc ++ [c]) st' r = E) ∧ (numStep st c = .done → E = some (acc, decide (2 < st), c :: r)) ∧ (numStep st c = .bad → E = none) := by
  refine ⟨fun st' hs => ?_, fun hs => ?_, fun hs => ?_⟩ <;> simp only [numRun, hs] at h
  · exact h
  · exact h.symm
  · exact h.symm

theorem Sc.Mid.of_go {s : Sc} {g : Option Nat} {w wr w1 w2 : World} {E : NumE} {q p : Nat} {x : UInt8} {acc : List UInt8} {st t : Nat} {v7 v10 : Value} (st' t' : Nat) (hl : ∃ q0 p0, s.St g q0 p0 w)
    (h : s.Nm g w E q acc st t wr) (h4 : s.Got g q x false p w1) (h5 : Fr (s.S g) wr w1) (hb : Lib.IsBuffer 107 5 w.heap.size w.heap.size (Lib.byteCells acc ++ [.int .u8 (x.toNat : Int)]) w2) (hbel : Below w.heap.size w1 w2) (hs : numStep st x = .go st') (hk : KindOk st' t')
    (h7 : v7 = .int .u8 st') (h10 : v10 = .int .u8 t') : s.Mid g w E q p x false acc v7 v10 w2 := by
  obtain ⟨q0, p0, hl⟩ := hl
  rcases h4 with ⟨_, ⟨hq, hx⟩, hp, hst⟩ | ⟨h, _⟩
  · have hd : s.T.drop q = x :: s.T.drop (q + 1) := by rw [List.drop_eq_getElem_cons hq, hx]
    refine .go st' t' h7 h10 ⟨by omega, by omega, ⟨p, st_below hl hst hbel⟩, ?_, by have := h.len; simp; omega, (numRun_step (by rw [← hd]; exact h.run)).1 st' hs, (h.fr.trans h5).then_below hbel, hk⟩
    have e : Lib.byteCells (acc ++ [x]) = Lib.byteCells acc ++ [.int .u8 (x.toNat : Int)] := by simp [Lib.byteCells]
    rw [e]
    exact hb
  · cases h

theorem Sc.Mid.of_bad {s : Sc} {g : Option Nat} {w wr w1 : World} {E : NumE} {q p : Nat} {x : UInt8} {eb : Bool} {acc : List UInt8} {st t : Nat} {v7 v10 : Value} (t' : Nat)
    (h : s.Nm g w E q acc st t wr) (h4 : s.Got g q x eb p w1) (h5 : Fr (s.S g) wr w1) (hs : (eb = false → numStep st x = .bad) ∧ (eb = true → numEnds st = false))
    (h7 : v7 = .int .u8 9) (h10 : v10 = .int .u8 t') : s.Mid g w E q p x eb acc v7 v10 w1 := by
  refine .bad t' h7 h10 ?_ (h.fr.trans h5)
  rcases got_rest h4 with ⟨he, hd, _⟩ | ⟨he, hd⟩
  · have := h.run
    rw [hd] at this
    simp only [numRun, hs.2 he] at this
    exact this.symm
  · exact (numRun_step (by rw [← hd]; exact h.run)).2.2 (hs.1 he)

theorem Sc.Mid.of_done {s : Sc} {g : Option Nat} {w wr w1 : World} {E : NumE} {q p : Nat} {x : UInt8} {eb : Bool} {acc : List UInt8} {st t : Nat} {v7 v10 : Value} (t' : Nat) (hl : ∃ q0 p0, s.St g q0 p0 w)
    (h : s.Nm g w E q acc st t wr) (h4 : s.Got g q x eb p w1) (h5 : Fr (s.S g) wr w1) (hs : (eb = false → numStep st x = .done) ∧ (eb = true → numEnds st = true)) (ht : t' = 7 ∨ t' = 8) (hd2 : decide (t' = 8) = decide (2 < st))
    (h7 : v7 = .int .u8 8) (h10 : v10 = .int .u8 t') : s.Mid g w E q p x eb acc v7 v10 w1 := by
  obtain ⟨q0, p0, hl⟩ := hl
  refine .done t' h7 h10 ht ?_ h4 (buf_read hl h.buf h5) (h.fr.trans h5)
  rw [hd2]
  rcases got_rest h4 with ⟨he, hd, _⟩ | ⟨he, hd⟩
  · have := h.run
    rw [hd] at this ⊢
    simp only [numRun, hs.2 he, if_true] at this
    exact this.symm
  · have hr : numRun acc st (x :: s.T.drop (q + 1)) = E := by rw [← hd]; exact h.run
    rw [(numRun_step hr).2.1 (hs.1 he), hd]

theorem blank_cases {x : UInt8} (h : isBlank x = true) : x = 32 ∨ x = 9 ∨ x = 13 ∨ x = 10 := by
  simp only [isBlank, Bool.or_eq_true, beq_iff_eq] at h
  rcases h with ((h | h) | h) | h <;> simp [h]

end Go.Proofs.YtdabllkphibfmaaGreatDoor
