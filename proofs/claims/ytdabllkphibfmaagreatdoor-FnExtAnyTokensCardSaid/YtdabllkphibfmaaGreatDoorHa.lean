/- Contracts off the shelf, at this translation (written by lay-plain.mjs, pruned). -/
import Derived.Shelf.Small.Bits
import Derived.Shelf.LaysC
import Derived.Shelf.Strconv.ToError
import Derived.Shelf.Strconv.ToErrorRange
import Derived.Shelf.Bits.Mul64
import Derived.Test.YtdabllkphibfmaaGreatDoorProg
import Derived.Test.YtdabllkphibfmaaGreatDoorFloG
import Derived.OpenShut
import Derived.Deep.DeepCutAuto
import Derived.Deep.CutBlock
import Derived.IntWalk
import Derived.Laws.Bits64b
namespace Go.Proofs
open Go.Shelf
def Tryz.lays129_ren : Go.Shelf.Ren := ⟨fun | 129 => 115 | n => n, fun | 53 => 27 | 3 => 3 | 4 => 4 | 46 => 70 | 5 => 5 | 9 => 9 | n => n, fun | n => n⟩
theorem Tryz.lays129 : Go.Proofs.Lays.n129 Tryz.prog Tryz.lays129_ren := {
  mixed := by kernel_rfl
  f129 := Tryz.func115.trans (congrArg some (by kernel_rfl))
  t3 := Tryz.underlying3
  a3 := Tryz.isAgg3
  z3 := Tryz.sizeOf3
  v3 := Tryz.zeroValue3
  t4 := Tryz.underlying4
  a4 := Tryz.isAgg4
  z4 := Tryz.sizeOf4
  v4 := Tryz.zeroValue4
  t5 := Tryz.underlying5
  a5 := Tryz.isAgg5
  z5 := Tryz.sizeOf5
  v5 := Tryz.zeroValue5
  t9 := Tryz.underlying9
  a9 := Tryz.isAgg9
  z9 := Tryz.sizeOf9
  v9 := Tryz.zeroValue9
  t46 := Tryz.underlying70
  a46 := Tryz.isAgg70
  z46 := Tryz.sizeOf70
  v46 := Tryz.zeroValue70
  t53 := Tryz.underlying27
  a53 := Tryz.isAgg27
  z53 := Tryz.sizeOf27
  v53 := Tryz.zeroValue27 }
theorem Tryz.bits_Len64 (x : Int) (w : World) (h0 : 0 ≤ x) (h1 : x ≤ 18446744073709551615) :
    Calls Tryz.prog 115 #[.int .u64 x] w fun e w' => e = .returned (.int .i64 (Lib.bitLen x.toNat)) ∧ w' = w := Any.bits_Len64 Tryz.lays129 x w h0 h1
def Tryz.laysC245_ren : Go.Shelf.Ren := ⟨fun | 245 => 41 | 279 => 56 | 280 => 57 | 281 => 58 | 282 => 59 | 316 => 79 | 171 => 80 | 205 => 54 | 243 => 101 | 246 => 126 | 283 => 133 | 284 => 134 | 285 => 135 | 286 => 136 | 129 => 115 | 317 => 139 | 318 => 119 | 319 => 140 | 320 => 141 | 337 => 142 | 338 => 143 | n => n, fun | 9 => 9 | 3 => 3 | 75 => 57 | 167 => 124 | 4 => 4 | 168 => 125 | 210 => 158 | 37 => 31 | 0 => 0 | 127 => 194 | 145 => 152 | 143 => 150 | 2 => 2 | 171 => 231 | 53 => 27 | 5 => 5 | 173 => 233 | 212 => 240 | 51 => 69 | 20 => 20 | 213 => 241 | 46 => 70 | 232 => 245 | 233 => 246 | 80 => 72 | n => n, fun | 15 => 4 | 16 => 5 | 17 => 17 | 18 => 18 | 19 => 19 | n => n⟩
theorem Tryz.laysC245 : Go.Proofs.LaysC.n245 Tryz.prog Tryz.laysC245_ren := {
  mixed := by kernel_rfl
  f129 := Tryz.func115.trans (congrArg some (by kernel_rfl))
  f171 := Tryz.func80.trans (congrArg some (by kernel_rfl))
  f205 := Tryz.func54.trans (congrArg some (by kernel_rfl))
  f243 := Tryz.func101.trans (congrArg some (by kernel_rfl))
  f245 := Tryz.func41.trans (congrArg some (by kernel_rfl))
  f246 := Tryz.func126.trans (congrArg some (by kernel_rfl))
  f279 := Tryz.func56.trans (congrArg some (by kernel_rfl))
  f280 := Tryz.func57.trans (congrArg some (by kernel_rfl))
  f281 := Tryz.func58.trans (congrArg some (by kernel_rfl))
  f282 := Tryz.func59.trans (congrArg some (by kernel_rfl))
  f283 := Tryz.func133.trans (congrArg some (by kernel_rfl))
  f284 := Tryz.func134.trans (congrArg some (by kernel_rfl))
  f285 := Tryz.func135.trans (congrArg some (by kernel_rfl))
  f286 := Tryz.func136.trans (congrArg some (by kernel_rfl))
  f316 := Tryz.func79.trans (congrArg some (by kernel_rfl))
  f317 := Tryz.func139.trans (congrArg some (by kernel_rfl))
  f318 := Tryz.func119.trans (congrArg some (by kernel_rfl))
  f319 := Tryz.func140.trans (congrArg some (by kernel_rfl))
  f320 := Tryz.func141.trans (congrArg some (by kernel_rfl))
  f337 := Tryz.func142.trans (congrArg some (by kernel_rfl))
  f338 := Tryz.func143.trans (congrArg some (by kernel_rfl))
  t0 := Tryz.underlying0
  a0 := Tryz.isAgg0
  z0 := Tryz.sizeOf0
  v0 := Tryz.zeroValue0
  t2 := Tryz.underlying2
  a2 := Tryz.isAgg2
  z2 := Tryz.sizeOf2
  v2 := Tryz.zeroValue2
  t3 := Tryz.underlying3
  a3 := Tryz.isAgg3
  z3 := Tryz.sizeOf3
  v3 := Tryz.zeroValue3
  t4 := Tryz.underlying4
  a4 := Tryz.isAgg4
  z4 := Tryz.sizeOf4
  v4 := Tryz.zeroValue4
  t5 := Tryz.underlying5
  a5 := Tryz.isAgg5
  z5 := Tryz.sizeOf5
  v5 := Tryz.zeroValue5
  t9 := Tryz.underlying9
  a9 := Tryz.isAgg9
  z9 := Tryz.sizeOf9
  v9 := Tryz.zeroValue9
  t20 := Tryz.underlying20
  a20 := Tryz.isAgg20
  z20 := Tryz.sizeOf20
  v20 := Tryz.zeroValue20
  t37 := Tryz.underlying31
  a37 := Tryz.isAgg31
  z37 := Tryz.sizeOf31
  v37 := Tryz.zeroValue31
  t46 := Tryz.underlying70
  a46 := Tryz.isAgg70
  z46 := Tryz.sizeOf70
  v46 := Tryz.zeroValue70
  t51 := Tryz.underlying69
  a51 := Tryz.isAgg69
  z51 := Tryz.sizeOf69
  v51 := Tryz.zeroValue69
  t53 := Tryz.underlying27
  a53 := Tryz.isAgg27
  z53 := Tryz.sizeOf27
  v53 := Tryz.zeroValue27
  t75 := Tryz.underlying57
  a75 := Tryz.isAgg57
  z75 := Tryz.sizeOf57
  v75 := Tryz.zeroValue57
  t127 := Tryz.underlying194
  a127 := Tryz.isAgg194
  z127 := Tryz.sizeOf194
  v127 := Tryz.zeroValue194
  t143 := Tryz.underlying150
  a143 := Tryz.isAgg150
  z143 := Tryz.sizeOf150
  v143 := Tryz.zeroValue150
  t145 := Tryz.underlying152
  a145 := Tryz.isAgg152
  z145 := Tryz.sizeOf152
  v145 := Tryz.zeroValue152
  t167 := Tryz.underlying124
  a167 := Tryz.isAgg124
  z167 := Tryz.sizeOf124
  v167 := Tryz.zeroValue124
  t168 := Tryz.underlying125
  a168 := Tryz.isAgg125
  z168 := Tryz.sizeOf125
  v168 := Tryz.zeroValue125
  t171 := Tryz.underlying231
  a171 := Tryz.isAgg231
  z171 := Tryz.sizeOf231
  v171 := Tryz.zeroValue231
  t173 := Tryz.underlying233
  a173 := Tryz.isAgg233
  z173 := Tryz.sizeOf233
  v173 := Tryz.zeroValue233
  t210 := Tryz.underlying158
  a210 := Tryz.isAgg158
  z210 := Tryz.sizeOf158
  v210 := Tryz.zeroValue158
  t212 := Tryz.underlying240
  a212 := Tryz.isAgg240
  z212 := Tryz.sizeOf240
  v212 := Tryz.zeroValue240
  t213 := Tryz.underlying241
  a213 := Tryz.isAgg241
  z213 := Tryz.sizeOf241
  t232 := Tryz.underlying245
  a232 := Tryz.isAgg245
  z232 := Tryz.sizeOf245
  v232 := Tryz.zeroValue245
  t233 := Tryz.underlying246
  a233 := Tryz.isAgg246
  z233 := Tryz.sizeOf246
  v233 := Tryz.zeroValue246
  g15 := by kernel_rfl
  g16 := by kernel_rfl
  g17 := by kernel_rfl
  g18 := by kernel_rfl
  g19 := by kernel_rfl
  t80 := Tryz.underlying72
  a80 := Tryz.isAgg72
  z80 := Tryz.sizeOf72
  v80 := Tryz.zeroValue72
  i0 := by kernel_rfl
  i2 := by kernel_rfl
  i3 := by kernel_rfl
  i4 := by kernel_rfl
  i5 := by kernel_rfl
  i9 := by kernel_rfl
  i20 := by kernel_rfl
  i37 := by kernel_rfl
  i46 := by kernel_rfl
  i51 := by kernel_rfl
  i53 := by kernel_rfl
  i75 := by kernel_rfl
  i80 := by kernel_rfl
  i127 := by kernel_rfl
  i143 := by kernel_rfl
  i145 := by kernel_rfl
  i167 := by kernel_rfl
  i168 := by kernel_rfl
  i171 := by kernel_rfl
  i173 := by kernel_rfl
  i210 := by kernel_rfl
  i212 := by kernel_rfl
  i232 := by kernel_rfl
  i233 := by kernel_rfl
  m15 := by kernel_rfl
  m16 := by kernel_rfl
  m17 := by kernel_rfl
  m18 := by kernel_rfl
  m19 := by kernel_rfl
  c0 := by kernel_rfl
  c2 := by kernel_rfl
  c3 := by kernel_rfl
  c4 := by kernel_rfl
  c5 := by kernel_rfl
  c9 := by kernel_rfl
  c20 := by kernel_rfl
  c37 := by kernel_rfl
  c46 := by kernel_rfl
  c51 := by kernel_rfl
  c53 := by kernel_rfl
  c75 := by kernel_rfl
  c80 := by kernel_rfl
  c127 := by kernel_rfl
  c143 := by kernel_rfl
  c145 := by kernel_rfl
  c167 := by kernel_rfl
  c168 := by kernel_rfl
  c171 := by kernel_rfl
  c173 := by kernel_rfl
  c210 := by kernel_rfl
  c212 := by kernel_rfl
  c213 := by kernel_rfl
  c232 := by kernel_rfl
  c233 := by kernel_rfl }
open Go.RowKit in
theorem Tryz.strconv_toError_syntax (fn s : ByteArray) (base bits : Int) (ev : Value) (w : World) (hlim : s.size ≤ 281474976710656) (hv : w.cell? ⟨4, 0, none⟩ = some ev) (hev : ev = .nilIface ∨ ∃ te pe, ev = .iface te pe) :
    Calls Tryz.prog 41 #[.string fn, .string s, .int .i64 base, .int .i64 bits, .iface 124 (.int .i64 2)] w fun e w' => ∃ N, e = .returned (.iface 125 (.pointer (some ⟨N, 0, none⟩))) ∧ w.heap.size ≤ N ∧ w'.heap[N]? = some (.cells #[.string fn, .string s, ev] 158 (0, 0)) ∧ Below w.heap.size w w' := Any.strconv_toError_syntax Tryz.laysC245 fn s base bits ev w hlim hv hev
open Go.RowKit in
theorem Tryz.strconv_toError_range (fn s : ByteArray) (base bits : Int) (ev : Value) (w : World) (hlim : s.size ≤ 281474976710656) (hv : w.cell? ⟨5, 0, none⟩ = some ev) (hev : ev = .nilIface ∨ ∃ te pe, ev = .iface te pe) :
    Calls Tryz.prog 41 #[.string fn, .string s, .int .i64 base, .int .i64 bits, .iface 124 (.int .i64 1)] w fun e w' => ∃ N, e = .returned (.iface 125 (.pointer (some ⟨N, 0, none⟩))) ∧ w.heap.size ≤ N ∧ w'.heap[N]? = some (.cells #[.string fn, .string s, ev] 158 (0, 0)) ∧ Below w.heap.size w w' := Any.strconv_toError_range Tryz.laysC245 fn s base bits ev w hlim hv hev
def Tryz.lays264_ren : Go.Shelf.Ren := ⟨fun | 264 => 129 | n => n, fun | 53 => 27 | 46 => 70 | n => n, fun | n => n⟩
theorem Tryz.lays264 : Go.Proofs.Lays.n264 Tryz.prog Tryz.lays264_ren := {
  mixed := by kernel_rfl
  f264 := Tryz.func129.trans (congrArg some (by kernel_rfl))
  t46 := Tryz.underlying70
  a46 := Tryz.isAgg70
  z46 := Tryz.sizeOf70
  v46 := Tryz.zeroValue70
  t53 := Tryz.underlying27
  a53 := Tryz.isAgg27
  z53 := Tryz.sizeOf27
  v53 := Tryz.zeroValue27 }
open Go.RowKit Go.Lib in
theorem Tryz.bits_Mul64 (x y : Nat) (hx : x < 18446744073709551616) (hy : y < 18446744073709551616) (w : World) :
    Calls Tryz.prog 129 #[.int .u64 x, .int .u64 y] w fun e w' => e = .returned (.tuple #[.int .u64 ((x * y / 18446744073709551616 : Nat) : Int), .int .u64 ((x * y % 18446744073709551616 : Nat) : Int)]) ∧ w' = w := Any.bits_Mul64 Tryz.lays264 x y hx hy w
end Go.Proofs

/- ParseFloat's quick road by tables: prescale, uscale, pack64, parseFloat64: each gives one answer. -/
namespace Go.Proofs.YtdabllkphibfmaaGreatDoor
open Go Go.RowKit
set_option linter.unusedSimpArgs false
set_option linter.unusedVariables false

theorem log2p (x : Int) (h : -1000 ≤ x ∧ x ≤ 1000) (w : World) : Calls Tryz.prog 116 #[.int .i64 x] w fun e w' => e = .returned (.int .i64 (x * 108853 / 32768)) ∧ w = w' := by
  go_enter Tryz.func116, Tryz.ntmps116
  go_wp2
  go_ret
  exact ⟨rfl, rfl⟩

theorem boolU (b : Bool) (w : World) : Calls Tryz.prog 97 #[.bool b] w fun e w' => e = .returned (.int .u64 (if b then 1 else 0)) ∧ w = w' := by
  cases b
  · go_enter Tryz.func97, Tryz.ntmps97
    go_wp2
    go_ret
    exact ⟨rfl, rfl⟩
  · go_enter Tryz.func97, Tryz.ntmps97
    go_wp2
    go_ret
    exact ⟨rfl, rfl⟩

theorem boolU' (b : Bool) (w : World) : Calls Tryz.prog 97 #[.bool b] w fun e w' => e = .returned (.int .u64 (if b then 1 else 0)) ∧ w' = w := (boolU b w).mono fun _ _ ⟨h1, h2⟩ => ⟨h1, h2.symm⟩

/-- What prescale leaves. -/
def PrePost (g : Nat) (hi lo s : Int) (w : World) (e : Ending) (w' : World) : Prop := w'.heap[g]? = some (.cells #[.int .u64 hi, .int .u64 lo, .int .i64 s] 209 (0, 0)) ∧ Below g w w' ∧ e = .returned (.tuple #[])

/-- prescale. -/
theorem prescale (g : Nat) (a b c : Value) (e p lp : Int) (i : Nat) (hi lo S : Int) (w : World) (he : -100000 ≤ e ∧ e ≤ 100000) (hlp : -100000 ≤ lp ∧ lp ≤ 100000) (hp : p = (i : Int) - 348) (hi696 : i < 696) (hb : w.heap[g]? = some (.cells #[a, b, c] 209 (0, 0)))
    (h0 : w.cell? ⟨15, i * 2, none⟩ = some (.int .u64 hi)) (h1 : w.cell? ⟨15, i * 2 + 1, none⟩ = some (.int .u64 lo)) (hg : 15 < g) (hS : S = -(e + lp + 3)) :
    Calls Tryz.prog 117 #[.pointer (some ⟨g, 0, none⟩), .int .i64 e, .int .i64 p, .int .i64 lp] w (PrePost g hi lo S w) := by
  subst hp hS
  obtain ⟨d0, d1, d2, df⟩ := cell3 hb
  have hne : 15 ≠ g := by omega
  have HB := Lib.hid hb
  clear hb
  go_enter Tryz.func117, Tryz.ntmps117
  go_wp2
  go_end0
  refine ⟨?_, (((Below.refl g w).setCell (Nat.le_refl _) _).setCell (Nat.le_refl _) _).setCell (Nat.le_refl _) _, rfl⟩
  rw [heap_set (heap_set (heap_set HB.out))]
  rfl

theorem and63 (s : Nat) (h : s < 64) : bits BinOp.and IntKind.i64 (s : Nat) 63 = (s : Nat) := by
  have all : ∀ s : _root_.Fin 64, bits BinOp.and IntKind.i64 ((s.val : Nat) : Int) 63 = ((s.val : Nat) : Int) := by decide
  exact all ⟨s, h⟩

def InU (u : Int) : Prop := 0 ≤ u ∧ u ≤ 18446744073709551615

theorem u64_bits (op : BinOp) (a b : Int) : InU (bits op .u64 a b) := by
  have := wf_bits op .u64 a b
  simp [Lit.wf, IntKind.min, IntKind.max, IntKind.signed, IntKind.bits] at this
  unfold InU
  omega

/-- A number is given back; the world has drawn. -/
def RetI (k : IntKind) (u : Int) (w : World) (e : Ending) (w' : World) : Prop := e = .returned (.int k u) ∧ ∃ n, w' = w.drewN n

set_option maxHeartbeats 4000000 in
/-- uscale: one answer for its number and its scale. -/
theorem uscale (x hi lo : Nat) (s : Nat) (hx : x < 18446744073709551616) (hhi : hi < 18446744073709551616) (hlo : lo < 18446744073709551616) (hs : s < 64) :
    ∃ u : Int, InU u ∧ ∀ (g : Nat) (w : World), w.heap[g]? = some (.cells #[.int .u64 hi, .int .u64 lo, .int .i64 s] 209 (0, 0)) → Calls Tryz.prog 118 #[.int .u64 x, .pointer (some ⟨g, 0, none⟩)] w (RetI .u64 u w) := by
  have h63 := and63 s hs
  by_cases c1 : (IntKind.u64.wrap ((x : Int) * hi / 18446744073709551616 / 2 ^ s * 2 ^ s) != (x : Int) * hi / 18446744073709551616) = true
  · apply Exists.intro
    refine ⟨?_, fun g w hb => ?_⟩
    rotate_left
    obtain ⟨d0, d1, d2, df⟩ := cell3 hb
    clear hb
    go_enter Tryz.func118, Tryz.ntmps118
    go_wp2_with (first | (go_at_call 129; refine (Tryz.bits_Mul64 _ _ (by assumption) (by assumption) _).mono ?_; rintro e w' ⟨rfl, rfl⟩) | (go_at_call 97; refine (boolU _ _).mono ?_; rintro e w' ⟨rfl, rfl⟩))
    go_ret
    exact ⟨rfl, 0, rfl⟩
    exact u64_bits _ _ _
  · have c1' : (IntKind.u64.wrap ((x : Int) * hi / 18446744073709551616 / 2 ^ s * 2 ^ s) != (x : Int) * hi / 18446744073709551616) = false := by simpa using c1
    clear c1
    by_cases c2 : (x : Int) * hi % 18446744073709551616 < (x : Int) * lo / 18446744073709551616
    · have c3 := decide_eq_true c2
      by_cases c4 : (1 : Int) < IntKind.u64.wrap ((x : Int) * hi % 18446744073709551616 - (x : Int) * lo / 18446744073709551616)
      · have c5 := decide_eq_true c4
        clear c4 c2
        apply Exists.intro
        refine ⟨?_, fun g w hb => ?_⟩
        rotate_left
        obtain ⟨d0, d1, d2, df⟩ := cell3 hb
        clear hb
        go_enter Tryz.func118, Tryz.ntmps118
        go_wp2_with (first | (go_at_call 129; refine (Tryz.bits_Mul64 _ _ (by assumption) (by assumption) _).mono ?_; rintro e w' ⟨rfl, rfl⟩) | (go_at_call 97; refine (boolU _ _).mono ?_; rintro e w' ⟨rfl, rfl⟩))
        go_quiet ((go_at_call 97; exact Calls.quiet_of_same (boolU' _ _)))
        go_wp2
        go_ret
        exact ⟨rfl, _, rfl⟩
        exact u64_bits _ _ _
      · have c5 := decide_eq_false c4
        clear c4 c2
        apply Exists.intro
        refine ⟨?_, fun g w hb => ?_⟩
        rotate_left
        obtain ⟨d0, d1, d2, df⟩ := cell3 hb
        clear hb
        go_enter Tryz.func118, Tryz.ntmps118
        go_wp2_with (first | (go_at_call 129; refine (Tryz.bits_Mul64 _ _ (by assumption) (by assumption) _).mono ?_; rintro e w' ⟨rfl, rfl⟩) | (go_at_call 97; refine (boolU _ _).mono ?_; rintro e w' ⟨rfl, rfl⟩))
        go_quiet ((go_at_call 97; exact Calls.quiet_of_same (boolU' _ _)))
        go_wp2
        go_ret
        exact ⟨rfl, _, rfl⟩
        exact u64_bits _ _ _
    · have c3 := decide_eq_false c2
      by_cases c4 : (1 : Int) < IntKind.u64.wrap ((x : Int) * hi % 18446744073709551616 - (x : Int) * lo / 18446744073709551616)
      · have c5 := decide_eq_true c4
        clear c4 c2
        apply Exists.intro
        refine ⟨?_, fun g w hb => ?_⟩
        rotate_left
        obtain ⟨d0, d1, d2, df⟩ := cell3 hb
        clear hb
        go_enter Tryz.func118, Tryz.ntmps118
        go_wp2_with (first | (go_at_call 129; refine (Tryz.bits_Mul64 _ _ (by assumption) (by assumption) _).mono ?_; rintro e w' ⟨rfl, rfl⟩) | (go_at_call 97; refine (boolU _ _).mono ?_; rintro e w' ⟨rfl, rfl⟩))
        go_quiet ((go_at_call 97; exact Calls.quiet_of_same (boolU' _ _)))
        go_wp2
        go_ret
        exact ⟨rfl, _, rfl⟩
        exact u64_bits _ _ _
      · have c5 := decide_eq_false c4
        clear c4 c2
        apply Exists.intro
        refine ⟨?_, fun g w hb => ?_⟩
        rotate_left
        obtain ⟨d0, d1, d2, df⟩ := cell3 hb
        clear hb
        go_enter Tryz.func118, Tryz.ntmps118
        go_wp2_with (first | (go_at_call 129; refine (Tryz.bits_Mul64 _ _ (by assumption) (by assumption) _).mono ?_; rintro e w' ⟨rfl, rfl⟩) | (go_at_call 97; refine (boolU _ _).mono ?_; rintro e w' ⟨rfl, rfl⟩))
        go_quiet ((go_at_call 97; exact Calls.quiet_of_same (boolU' _ _)))
        go_wp2
        go_ret
        exact ⟨rfl, _, rfl⟩
        exact u64_bits _ _ _

theorem uscaleI (x : Int) (hx : InU x) (hi lo : Nat) (S : Int) (hhi : hi < 18446744073709551616) (hlo : lo < 18446744073709551616) (hS : 0 ≤ S ∧ S < 64) :
    ∃ u : Int, InU u ∧ ∀ (g : Nat) (w : World), w.heap[g]? = some (.cells #[.int .u64 hi, .int .u64 lo, .int .i64 S] 209 (0, 0)) → Calls Tryz.prog 118 #[.int .u64 x, .pointer (some ⟨g, 0, none⟩)] w (RetI .u64 u w) := by
  unfold InU at hx
  obtain ⟨n, rfl⟩ : ∃ n : Nat, x = n := ⟨x.toNat, by omega⟩
  obtain ⟨s, rfl⟩ : ∃ s : Nat, S = s := ⟨S.toNat, by omega⟩
  exact uscale n hi lo s (by omega) hhi hlo (by omega)

theorem boolI (b : Bool) (w : World) : Calls Tryz.prog 119 #[.bool b] w fun e w' => e = .returned (.int .i64 (if b then 1 else 0)) ∧ w = w' := by
  cases b
  · go_enter Tryz.func119, Tryz.ntmps119
    go_wp2
    go_ret
    exact ⟨rfl, rfl⟩
  · go_enter Tryz.func119, Tryz.ntmps119
    go_wp2
    go_ret
    exact ⟨rfl, rfl⟩

theorem unmin53 (w : World) : Calls Tryz.prog 120 #[.int .u64 9007199254740992] w fun e w' => e = .returned (.int .u64 36028797018963966) ∧ w = w' := by
  go_enter Tryz.func120, Tryz.ntmps120
  go_wp2
  go_ret
  exact ⟨rfl, rfl⟩

theorem wrap_u (x : Int) : InU (IntKind.u64.wrap x) := by
  unfold InU IntKind.wrap
  simp [IntKind.signed, IntKind.bits]
  omega

theorem roundU (u : Int) (hu : InU u) : ∃ r : Int, InU r ∧ ∀ w, Calls Tryz.prog 122 #[.int .u64 u] w fun e w' => e = .returned (.int .u64 r) ∧ w = w' := by
  have hu2 := hu
  unfold InU at hu2
  apply Exists.intro
  refine ⟨?_, fun w => ?_⟩
  rotate_left
  go_enter Tryz.func122, Tryz.ntmps122
  go_wp2
  go_ret
  exact ⟨rfl, rfl⟩
  have h1 := wrap_u (IntKind.u64.wrap (u + 1) + bits BinOp.and IntKind.u64 (u / 4) 1)
  unfold InU at h1 ⊢
  omega

/-- A float is given back, and whether it is out of range. -/
def RetF (b : Nat) (r : Bool) (w : World) (e : Ending) (w' : World) : Prop := e = .returned (.tuple #[.float .f64 b, if r then .iface 124 (.int .i64 1) else .nilIface]) ∧ Below w.heap.size w w'

/-- The bits as a float's. -/
def toF (u : Int) : Nat := u.toNat

theorem fromU (u : Int) (w : World) : (Extern.MathFloatBits.float64frombits #[.int .u64 u]).run Tryz.prog w = .ok (.float .f64 (toF u)) w := by kernel_rfl

set_option maxRecDepth 100000 in
set_option maxHeartbeats 4000000 in
theorem pack64 (m e : Int) (hm : InU m) (he : -1074 ≤ e ∧ e ≤ 2000) : ∃ (b : Nat) (r : Bool), ∀ w, Calls Tryz.prog 125 #[.int .u64 m, .int .i64 e] w (RetF b r w) := by
  have h98 := @run_callFunc_extern Tryz.prog 98 _ Extern.MathFloatBits.float64frombits Tryz.func98 (by kernel_rfl) (by kernel_rfl) (by kernel_rfl) (by kernel_rfl)
  have hfu := fromU
  unfold InU at hm
  by_cases c1 : (bits BinOp.and IntKind.u64 m 4503599627370496 == 0) = true
  · apply Exists.intro
    refine ⟨false, fun w => ?_⟩
    go_enter Tryz.func125, Tryz.ntmps125
    go_wp2
    go_ret2
    exact ⟨rfl, Below.refl _ _⟩
  · have c1' : (bits BinOp.and IntKind.u64 m 4503599627370496 == 0) = false := by simpa using c1
    clear c1
    by_cases c2 : 972 ≤ e
    · apply Exists.intro
      refine ⟨true, fun w => ?_⟩
      go_enter Tryz.func125, Tryz.ntmps125
      go_wp2
      go_ret2
      exact ⟨rfl, Below.refl _ _⟩
    · have hx : ∀ w, (callFunc 98 #[.int .u64 (bits BinOp.or IntKind.u64 (bits BinOp.andNot IntKind.u64 m 4503599627370496) ((1075 + e) * 4503599627370496))]).run Tryz.prog w = .ok (.value (.float .f64 (toF (bits BinOp.or IntKind.u64 (bits BinOp.andNot IntKind.u64 m 4503599627370496) ((1075 + e) * 4503599627370496))))) w := fun w => by
        rw [h98, fromU]
        rfl
      obtain ⟨F, hF⟩ : ∃ F, F = toF (bits BinOp.or IntKind.u64 (bits BinOp.andNot IntKind.u64 m 4503599627370496) ((1075 + e) * 4503599627370496)) := ⟨_, rfl⟩
      rw [← hF] at hx
      clear hF h98 hfu
      refine ⟨F, false, fun w => ?_⟩
      go_enter Tryz.func125, Tryz.ntmps125
      go_wp2
      go_ret2
      exact ⟨rfl, Below.refl _ _⟩

end Go.Proofs.YtdabllkphibfmaaGreatDoor

/- parseFloat64: one answer. -/
namespace Go.Proofs.YtdabllkphibfmaaGreatDoor
open Go Go.RowKit
set_option linter.unusedSimpArgs false
set_option linter.unusedVariables false

/-- What goes to round. -/
def uHalf (c : Bool) (u : Int) : Int := if c then bits BinOp.or IntKind.u64 (u / 2) (bits BinOp.and IntKind.u64 u 1) else bits BinOp.or IntKind.u64 u (bits BinOp.and IntKind.u64 u 1)
def eLess (c : Bool) (E : Int) : Int := if c then E - 1 else E

theorem below_nn {B : Nat} {a w : World} (h : Below B a w) (n : Nat) : Below B a (w.drewN n) := ⟨h.os, h.tape, h.output, h.size, h.block⟩

theorem below_one' (wr : World) (o : Obj) : Below wr.heap.size wr (wr.alloc o) := (Below.refl _ wr).alloc (Nat.le_refl _) _

theorem pre_below {w w1 : World} {o : Obj} (h : Below w.heap.size (w.alloc o) w1) : Below w.heap.size w w1 := (below_one' w o).trans h

set_option maxRecDepth 100000 in
set_option maxHeartbeats 4000000 in
/-- In range. -/
theorem pf64_in (d : Int) (p : Int) (sg : Int) (L : Nat) (hL64 : L ≤ 64) (lp : Int) (hlpb : -1200 ≤ lp ∧ lp ≤ 1200) (E : Int) (hE : E = min 1074 (53 - L - lp)) (S hi lo : Int) (hS : S = -(E - (64 - L) + lp + 3)) (HL : ∀ w, Calls Tryz.prog 115 #[.int .u64 d] w fun e w' => e = .returned (.int .i64 L) ∧ w' = w)
    (HP : ∀ w, Calls Tryz.prog 116 #[.int .i64 p] w fun e w' => e = .returned (.int .i64 lp) ∧ w = w') (w : World) (u : Int) (hu : InU u) (HU : ∀ (g : Nat) (w : World), w.heap[g]? = some (.cells #[.int .u64 hi, .int .u64 lo, .int .i64 S] 209 (0, 0)) → Calls Tryz.prog 118 #[.int .u64 (IntKind.u64.wrap (d * 2 ^ (64 - L))), .pointer (some ⟨g, 0, none⟩)] w (RetI .u64 u w)) (hS64 : ¬ (64 : Int) ≤ S) (c : Bool) (hc : decide ((36028797018963966 : Int) ≤ u) = c)
    (r : Int) (HR : ∀ w, Calls Tryz.prog 122 #[.int .u64 (uHalf c u)] w fun e w' => e = .returned (.int .u64 r) ∧ w = w') (b : Nat) (rr : Bool) (HK : ∀ w, Calls Tryz.prog 125 #[.int .u64 (bits BinOp.or IntKind.u64 sg r), .int .i64 (-(eLess c E))] w (RetF b rr w))
    (HPR : Calls Tryz.prog 117 #[.pointer (some ⟨w.heap.size, 0, none⟩), .int .i64 (E - (64 - L)), .int .i64 p, .int .i64 lp] (w.alloc (.cells #[.int .u64 0, .int .u64 0, .int .i64 0] 209)) (PrePost w.heap.size hi lo S (w.alloc (.cells #[.int .u64 0, .int .u64 0, .int .i64 0] 209)))) : Calls Tryz.prog 100 #[.int .u64 d, .int .i64 p, .int .u64 sg] w (RetF b rr w) := by
  have HL' := Lib.hid HL
  have HP' := Lib.hid HP
  have HPR' := Lib.hid HPR
  have hEb : -2000 ≤ E ∧ E ≤ 1074 := by omega
  have hSb : -5000 ≤ S ∧ S ≤ 5000 := by omega
  have HE := Lib.hid hE
  have HS := Lib.hid hS
  have HU' := Lib.hid HU
  have HR' := Lib.hid HR
  have HK' := Lib.hid HK
  unfold InU at hu
  clear HL HP HPR hE hS HU HR HK
  go_enter Tryz.func100, Tryz.ntmps100
  go_wp2_with fail
  refine (HL'.out _).mono ?_; rintro e w' ⟨rfl, rfl⟩
  go_wp2_with fail
  refine (HP'.out _).mono ?_; rintro e w' ⟨rfl, rfl⟩
  go_upto_region 4 with fail
  rw [← HE.out]
  go_wp2_with fail
  refine (HPR'.out).mono ?_
  rintro e w1 ⟨hb1, hbl, rfl⟩
  obtain ⟨d0, d1, d2, df⟩ := cell3 hb1
  have HB1 := Lib.hid hb1
  have HBL := Lib.hid hbl
  clear hb1 hbl
  go_wp2_with fail
  refine (HU'.out _ _ HB1.out).mono ?_
  rintro e w2 ⟨rfl, n, rfl⟩
  cases c
  · go_wp2_with (first | (go_at_call 120; refine (unmin53 _).mono ?_; rintro e w' ⟨rfl, rfl⟩) | (go_at_call 119; refine (boolI _ _).mono ?_; rintro e w' ⟨rfl, rfl⟩))
    refine (HR'.out _).mono ?_
    rintro e w3 ⟨rfl, rfl⟩
    go_wp2_with fail
    refine (HK'.out _).mono ?_
    rintro e w4 ⟨rfl, hb4⟩
    have HB4 := Lib.hid hb4
    clear hb4
    cases rr
    all_goals
      go_wp2_with fail
      go_ret2
      exact ⟨rfl, (below_nn (pre_below HBL.out) n).trans (HB4.out.mono (pre_below HBL.out).size)⟩
  · go_wp2_with (first | (go_at_call 120; refine (unmin53 _).mono ?_; rintro e w' ⟨rfl, rfl⟩) | (go_at_call 119; refine (boolI _ _).mono ?_; rintro e w' ⟨rfl, rfl⟩))
    refine (HR'.out _).mono ?_
    rintro e w3 ⟨rfl, rfl⟩
    go_wp2_with fail
    refine (HK'.out _).mono ?_
    rintro e w4 ⟨rfl, hb4⟩
    have HB4 := Lib.hid hb4
    clear hb4
    cases rr
    all_goals
      go_wp2_with fail
      go_ret2
      exact ⟨rfl, (below_nn (pre_below HBL.out) n).trans (HB4.out.mono (pre_below HBL.out).size)⟩

set_option maxRecDepth 100000 in
set_option maxHeartbeats 4000000 in
/-- Too small: a nought with its sign. -/
theorem pf64_out (d : Int) (p : Int) (sg : Int) (L : Nat) (hL64 : L ≤ 64) (lp : Int) (hlpb : -1200 ≤ lp ∧ lp ≤ 1200) (E : Int) (hE : E = min 1074 (53 - L - lp)) (S hi lo : Int) (hS : S = -(E - (64 - L) + lp + 3)) (HL : ∀ w, Calls Tryz.prog 115 #[.int .u64 d] w fun e w' => e = .returned (.int .i64 L) ∧ w' = w)
    (HP : ∀ w, Calls Tryz.prog 116 #[.int .i64 p] w fun e w' => e = .returned (.int .i64 lp) ∧ w = w') (w : World) (hS64 : (64 : Int) ≤ S)
    (HPR : Calls Tryz.prog 117 #[.pointer (some ⟨w.heap.size, 0, none⟩), .int .i64 (E - (64 - L)), .int .i64 p, .int .i64 lp] (w.alloc (.cells #[.int .u64 0, .int .u64 0, .int .i64 0] 209)) (PrePost w.heap.size hi lo S (w.alloc (.cells #[.int .u64 0, .int .u64 0, .int .i64 0] 209)))) : Calls Tryz.prog 100 #[.int .u64 d, .int .i64 p, .int .u64 sg] w (RetF (toF (bits BinOp.or IntKind.u64 sg 0)) false w) := by
  have h98 := @run_callFunc_extern Tryz.prog 98 _ Extern.MathFloatBits.float64frombits Tryz.func98 (by kernel_rfl) (by kernel_rfl) (by kernel_rfl) (by kernel_rfl)
  have hx : ∀ w, (callFunc 98 #[.int .u64 (bits BinOp.or IntKind.u64 sg 0)]).run Tryz.prog w = .ok (.value (.float .f64 (toF (bits BinOp.or IntKind.u64 sg 0)))) w := fun w => by
    rw [h98, fromU]
    rfl
  clear h98
  have HL' := Lib.hid HL
  have HP' := Lib.hid HP
  have HPR' := Lib.hid HPR
  have hEb : -2000 ≤ E ∧ E ≤ 1074 := by omega
  have hSb : -5000 ≤ S ∧ S ≤ 5000 := by omega
  have HE := Lib.hid hE
  have HS := Lib.hid hS
  clear HL HP HPR hE hS
  go_enter Tryz.func100, Tryz.ntmps100
  go_wp2_with fail
  refine (HL'.out _).mono ?_; rintro e w' ⟨rfl, rfl⟩
  go_wp2_with fail
  refine (HP'.out _).mono ?_; rintro e w' ⟨rfl, rfl⟩
  go_upto_region 4 with fail
  rw [← HE.out]
  go_wp2_with fail
  refine (HPR'.out).mono ?_
  rintro e w1 ⟨hb1, hbl, rfl⟩
  obtain ⟨d0, d1, d2, df⟩ := cell3 hb1
  have HB1 := Lib.hid hb1
  have HBL := Lib.hid hbl
  clear hb1 hbl
  go_wp2_with fail
  go_ret2
  exact ⟨rfl, pre_below HBL.out⟩

/-- The table of powers of ten lies in w0. -/
def TabOk (w0 : World) : Prop := 15 < w0.heap.size ∧ ∀ i, i < 696 → ∃ hi lo : Nat, hi < 18446744073709551616 ∧ lo < 18446744073709551616 ∧ w0.cell? ⟨15, i * 2, none⟩ = some (.int .u64 hi) ∧ w0.cell? ⟨15, i * 2 + 1, none⟩ = some (.int .u64 lo)

/-- parseFloat64: one answer. -/
theorem pf64 (w0 : World) (ht : TabOk w0) (d : Nat) (hd : d < 18446744073709551616) (p : Int) (hp : -345 ≤ p ∧ p ≤ 310) (sg : Int) : ∃ (b : Nat) (r : Bool), ∀ w, Old w0 w → Calls Tryz.prog 100 #[.int .u64 d, .int .i64 p, .int .u64 sg] w (RetF b r w) := by
  obtain ⟨i, hi⟩ : ∃ i : Nat, p = (i : Int) - 348 := ⟨(p + 348).toNat, by omega⟩
  obtain ⟨hi', lo, hh, hl, hc1, hc2⟩ := ht.2 i (by omega)
  obtain ⟨L, hL⟩ : ∃ L : Nat, L = Lib.bitLen d := ⟨_, rfl⟩
  have hL64 : L ≤ 64 := by rw [hL]; exact Lib.bitLen_le d 64 (by decide) (by simpa using hd)
  obtain ⟨lp, hlp⟩ : ∃ lp : Int, lp = p * 108853 / 32768 := ⟨_, rfl⟩
  have hlpb : -1200 ≤ lp ∧ lp ≤ 1200 := by rw [hlp]; omega
  have HL : ∀ w, Calls Tryz.prog 115 #[.int .u64 d] w fun e w' => e = .returned (.int .i64 L) ∧ w' = w := fun w => by
    rw [hL]
    have := Tryz.bits_Len64 (d : Int) w (by omega) (by omega)
    simpa using this
  have HP : ∀ w, Calls Tryz.prog 116 #[.int .i64 p] w fun e w' => e = .returned (.int .i64 lp) ∧ w = w' := fun w => by
    rw [hlp]
    exact log2p p (by omega) w
  clear hL hlp
  obtain ⟨E, hE⟩ : ∃ E : Int, E = min 1074 (53 - L - lp) := ⟨_, rfl⟩
  obtain ⟨S, hS⟩ : ∃ S : Int, S = -(E - (64 - L) + lp + 3) := ⟨_, rfl⟩
  have hEb : -2000 ≤ E ∧ E ≤ 1074 := by omega
  have HPR : ∀ w, Old w0 w → Calls Tryz.prog 117 #[.pointer (some ⟨w.heap.size, 0, none⟩), .int .i64 (E - (64 - L)), .int .i64 p, .int .i64 lp] (w.alloc (.cells #[.int .u64 0, .int .u64 0, .int .i64 0] 209)) (PrePost w.heap.size hi' lo S (w.alloc (.cells #[.int .u64 0, .int .u64 0, .int .i64 0] 209))) := fun w ho => by
    have ho2 : Old w0 (w.alloc (.cells #[.int .u64 0, .int .u64 0, .int .i64 0] 209)) := ho.below (below_one' w _) ho.size
    exact prescale w.heap.size _ _ _ (E - (64 - L)) p lp i hi' lo S _ (by omega) (by omega) hi (by omega) (heap_alloc_new _ _) (ho2.cell hc1) (ho2.cell hc2) (Nat.lt_of_lt_of_le ht.1 ho.size) hS
  by_cases c1 : (64 : Int) ≤ S
  · exact ⟨_, false, fun w ho => pf64_out d p sg L hL64 lp hlpb E hE S hi' lo hS HL HP w c1 (HPR w ho)⟩
  · obtain ⟨u, hu, HU⟩ := uscaleI (IntKind.u64.wrap ((d : Int) * 2 ^ (64 - L))) (wrap_u _) hi' lo S hh hl (by omega)
    obtain ⟨r, hr, HR⟩ := roundU (uHalf (decide ((36028797018963966 : Int) ≤ u)) u) (by unfold uHalf; split <;> exact u64_bits _ _ _)
    obtain ⟨b, rr, HK⟩ := pack64 (bits BinOp.or IntKind.u64 sg r) (-(eLess (decide ((36028797018963966 : Int) ≤ u)) E)) (u64_bits _ _ _) (by unfold eLess; split <;> omega)
    exact ⟨b, rr, fun w ho => pf64_in d p sg L hL64 lp hlpb E hE S hi' lo hS HL HP w u hu HU c1 _ rfl r HR b rr HK (HPR w ho)⟩

end Go.Proofs.YtdabllkphibfmaaGreatDoor

/- The decimal of strconv in memory: what its block holds; trim. -/
namespace Go.Proofs.YtdabllkphibfmaaGreatDoor
open Go Go.RowKit
set_option linter.unusedSimpArgs false
set_option linter.unusedVariables false

/-- A decimal: its 800 bytes, how many of them count, where its point stands, its sign, whether something was left out. -/
structure Dec where
  d : Nat → Nat
  nd : Nat
  dp : Int
  neg : Bool
  tr : Bool

def Dec.list (S : Dec) : List Value := (List.range 800).map (fun i => Value.int .u8 (S.d i)) ++ [.int .i64 S.nd, .int .i64 S.dp, .bool S.neg, .bool S.tr]
def Dec.cells (S : Dec) : Array Value := S.list.toArray

def DecAt (g : Nat) (S : Dec) (w : World) : Prop := w.heap[g]? = some (.cells S.cells 188 (0, 0))

def upd (d : Nat → Nat) (i v : Nat) : Nat → Nat := fun j => if j = i then v else d j

theorem Dec.get_dig (S : Dec) (i : Nat) (h : i < 800) : S.list[i]? = some (.int .u8 (S.d i)) := by
  unfold Dec.list
  rw [List.getElem?_append_left (by simpa using h), List.getElem?_map, List.getElem?_range h]
  rfl
theorem Dec.get_rest (S : Dec) (j : Nat) : S.list[800 + j]? = [Value.int .i64 S.nd, .int .i64 S.dp, .bool S.neg, .bool S.tr][j]? := by
  unfold Dec.list
  rw [List.getElem?_append_right (by simp)]
  simp

theorem DecAt.cell {g : Nat} {S : Dec} {w : World} (h : DecAt g S w) (i : Nat) : w.cell? ⟨g, i, none⟩ = S.list[i]? := by
  unfold DecAt at h
  simp [World.cell?, h, Dec.cells]

structure DecFacts (g : Nat) (S : Dec) (w : World) : Prop where
  nd : w.cell? ⟨g, 800, none⟩ = some (.int .i64 S.nd)
  dp : w.cell? ⟨g, 801, none⟩ = some (.int .i64 S.dp)
  neg : w.cell? ⟨g, 802, none⟩ = some (.bool S.neg)
  tr : w.cell? ⟨g, 803, none⟩ = some (.bool S.tr)
  fr : ∀ o, w.frozen? ⟨g, o, none⟩ = false
  dig : ∀ i, i < 800 → w.cell? ⟨g, i, none⟩ = some (.int .u8 (S.d i))

theorem DecAt.facts {g : Nat} {S : Dec} {w : World} (h : DecAt g S w) : DecFacts g S w := by
  refine ⟨(h.cell _).trans (S.get_rest 0), (h.cell _).trans (S.get_rest 1), (h.cell _).trans (S.get_rest 2), (h.cell _).trans (S.get_rest 3), fun o => ?_, fun i hi => (h.cell i).trans (S.get_dig i hi)⟩
  unfold DecAt at h
  simp [World.frozen?, h]

theorem DecAt.set {g : Nat} {S S' : Dec} {w : World} (h : DecAt g S w) (i : Nat) (v : Value) (e : S.list.set i v = S'.list) : DecAt g S' (w.setCell ⟨g, i, none⟩ v) := by
  unfold DecAt at h ⊢
  rw [heap_set h]
  have : S.cells.setIfInBounds i v = S'.cells := by
    unfold Dec.cells
    rw [← e]
    simp
  rw [this]

theorem set_map_range (n : Nat) (f f' : Nat → Value) (i : Nat) (v : Value) (hi : i < n) (hv : f' i = v) (hg : ∀ j, j ≠ i → f' j = f j) : ((List.range n).map f).set i v = (List.range n).map f' := by
  apply List.ext_getElem?
  intro j
  rw [List.getElem?_set]
  simp only [List.getElem?_map, List.length_map, List.length_range]
  by_cases hj : i = j
  · subst hj
    rw [if_pos rfl, if_pos hi, List.getElem?_range hi]
    simp [hv]
  · rw [if_neg hj]
    by_cases hj8 : j < n
    · rw [List.getElem?_range hj8]
      simp [hg j (fun h => hj h.symm)]
    · rw [List.getElem?_eq_none (by simp; omega)]
      rfl

theorem Dec.set_dig (S : Dec) (i v : Nat) (hi : i < 800) : S.list.set i (.int .u8 v) = ({ S with d := upd S.d i v } : Dec).list := by
  unfold Dec.list
  rw [List.set_append_left _ _ (by simp only [List.length_map, List.length_range]; exact hi)]
  rw [set_map_range 800 _ (fun j => Value.int .u8 (upd S.d i v j : Nat)) i _ hi (by simp [upd]) (fun j hj => by simp [upd, hj])]

theorem Dec.set_rest (S S' : Dec) (j : Nat) (v : Value) (hd : S'.d = S.d) (e : [Value.int .i64 S.nd, .int .i64 S.dp, .bool S.neg, .bool S.tr].set j v = [Value.int .i64 S'.nd, .int .i64 S'.dp, .bool S'.neg, .bool S'.tr]) : S.list.set (800 + j) v = S'.list := by
  unfold Dec.list
  rw [List.set_append_right _ _ (by simp), hd]
  simp only [List.length_map, List.length_range, Nat.add_sub_cancel_left]
  rw [e]

theorem DecAt.put {g : Nat} {S : Dec} {w : World} (h : DecAt g S w) (i v : Nat) (hi : i < 800) : DecAt g { S with d := upd S.d i v } (w.setCell ⟨g, i, none⟩ (.int .u8 v)) := h.set i _ (S.set_dig i v hi)
theorem DecAt.setNd {g : Nat} {S : Dec} {w : World} (h : DecAt g S w) (n : Nat) : DecAt g { S with nd := n } (w.setCell ⟨g, 800, none⟩ (.int .i64 n)) := h.set 800 _ (S.set_rest { S with nd := n } 0 _ rfl rfl)
theorem DecAt.setDp {g : Nat} {S : Dec} {w : World} (h : DecAt g S w) (n : Int) : DecAt g { S with dp := n } (w.setCell ⟨g, 801, none⟩ (.int .i64 n)) := h.set 801 _ (S.set_rest { S with dp := n } 1 _ rfl rfl)
theorem DecAt.setNeg {g : Nat} {S : Dec} {w : World} (h : DecAt g S w) (b : Bool) : DecAt g { S with neg := b } (w.setCell ⟨g, 802, none⟩ (.bool b)) := h.set 802 _ (S.set_rest { S with neg := b } 2 _ rfl rfl)
theorem DecAt.setTr {g : Nat} {S : Dec} {w : World} (h : DecAt g S w) (b : Bool) : DecAt g { S with tr := b } (w.setCell ⟨g, 803, none⟩ (.bool b)) := h.set 803 _ (S.set_rest { S with tr := b } 3 _ rfl rfl)
theorem DecAt.drewN {g : Nat} {S : Dec} {w : World} (h : DecAt g S w) (n : Nat) : DecAt g S (w.drewN n) := h

/-- What a function leaves that turns a decimal. -/
def DPost (g : Nat) (S : Dec) (w : World) (e : Ending) (w' : World) : Prop := e = .returned (.tuple #[]) ∧ DecAt g S w' ∧ Below g w w'

def trimN (d : Nat → Nat) : Nat → Nat
  | 0 => 0
  | n + 1 => if d n = 48 then trimN d n else n + 1

def Dec.trim (S : Dec) : Dec := { S with nd := trimN S.d S.nd, dp := if trimN S.d S.nd = 0 then 0 else S.dp }

def TrimR (g : Nat) (S : Dec) (w : World) (m : Nat) (wx : World) : Prop := m ≤ S.nd ∧ trimN S.d m = trimN S.d S.nd ∧ DecAt g { S with nd := m } wx ∧ Below g w wx

theorem trim_rel {g : Nat} {S : Dec} {w wr : World} {n : Nat} (hD : DecAt g { S with nd := n + 1 } wr) (hb : Below g w wr) (ht : trimN S.d (n + 1) = trimN S.d S.nd) (hd : S.d n = 48) (hm : n + 1 ≤ S.nd) (q : Nat) : TrimR g S w n ((wr.drewN q).setCell ⟨g, 800, none⟩ (.int .i64 n)) := by
  refine ⟨by omega, ?_, (hD.drewN q).setNd n, (below_nn hb q).setCell (Nat.le_refl _) _⟩
  rw [← ht, trimN, if_pos hd]

theorem trim_stop {g : Nat} {S : Dec} {w wr : World} {n : Nat} (hD : DecAt g { S with nd := n + 1 } wr) (hb : Below g w wr) (ht : trimN S.d (n + 1) = trimN S.d S.nd) (hd : S.d n ≠ 48) (q : Nat) : DPost g S.trim w (.returned (.tuple #[])) (wr.drewN q) := by
  refine ⟨rfl, ?_, below_nn hb q⟩
  have e : S.trim = { S with nd := n + 1 } := by
    unfold Dec.trim
    rw [← ht, trimN, if_neg hd, if_neg (by omega)]
  rw [e]
  exact hD

theorem trim_end {g : Nat} {S : Dec} {w wr : World} {n : Nat} (hD : DecAt g { S with nd := n } wr) (hb : Below g w wr) (ht : trimN S.d n = trimN S.d S.nd) (hn : n = 0) (q : Nat) : DPost g S.trim w (.returned (.tuple #[])) ((wr.drewN q).setCell ⟨g, 801, none⟩ (.int .i64 0)) := by
  subst hn
  refine ⟨rfl, ?_, (below_nn hb q).setCell (Nat.le_refl _) _⟩
  have h := (hD.drewN q).setDp 0
  have e : S.trim = { S with nd := 0, dp := 0 } := by
    unfold Dec.trim
    rw [← ht]
    rfl
  rw [e]
  exact h

set_option maxRecDepth 1000000 in
set_option maxHeartbeats 4000000 in
theorem trim (g : Nat) (S : Dec) (w : World) (h : DecAt g S w) (hn : S.nd ≤ 800) : Calls Tryz.prog 138 #[.pointer (some ⟨g, 0, none⟩)] w (DPost g S.trim w) := by
  have H := Lib.hid h
  clear h
  go_enter Tryz.func138, Tryz.ntmps138
  go_wp2
  go_loopg [] S.nd (fun m wx => Aside (TrimR g S w m wx))
  case atStart => exact ⟨Nat.le_refl _, rfl, H.out, Below.refl _ _⟩
  case round =>
    obtain ⟨hm, ht, hD, hb⟩ := hrel.out
    clear hrel
    have HD := Lib.hid hD
    have HB := Lib.hid hb
    have HT := Lib.hid ht
    obtain ⟨f1, f2, f3, f4, f5, f6⟩ := hD.facts
    clear hb ht hD
    rcases gk with _ | n
    · have f1' : wr.cell? ⟨g, 800, none⟩ = some (.int .i64 0) := f1
      clear f1 f6
      as_aux_lemma =>
      go_wp2
      go_quiet (fail)
      go_wp2
      go_end0
      exact trim_end HD.out HB.out HT.out rfl _
    · have fd := f6 n (by omega)
      clear f6
      have he : ((n + 1 : Nat) : Int) - 1 = n := by omega
      have he2 : IntKind.i64.wrap (((n + 1 : Nat) : Int) - 1) = n := by rw [he]; exact IntWalk.i64_in _ (by omega)
      by_cases hd : S.d n = 48
      · simp only [hd] at fd
        as_aux_lemma =>
        go_wp2
        go_quiet (fail)
        go_wp2
        go_roundg n
        case measure => omega
        case rel => exact trim_rel HD.out HB.out HT.out hd hm _
      · have hd2 : (((S.d n : Nat) : Int) == 48) = false := beq_eq_false_iff_ne.2 (by omega)
        as_aux_lemma =>
        go_wp2
        go_quiet (fail)
        go_wp2
        go_end0
        exact trim_stop HD.out HB.out HT.out hd _

end Go.Proofs.YtdabllkphibfmaaGreatDoor

/- prefixIsLessThan: one answer. -/
namespace Go.Proofs.YtdabllkphibfmaaGreatDoor
open Go Go.RowKit
set_option linter.unusedSimpArgs false
set_option linter.unusedVariables false

def pltF (d : Nat → Nat) (nd : Nat) : List UInt8 → Nat → Bool
  | [], _ => false
  | c :: r, i => if nd ≤ i then true else if d i = c.toNat then pltF d nd r (i + 1) else decide (d i < c.toNat)

def PltR (d : Nat → Nat) (nd : Nat) (s : ByteArray) (w : World) (m : Nat) (i : Value) (wx : World) : Prop :=
  ∃ k : Nat, k ≤ s.size ∧ m = s.size - k ∧ i = .int .i64 k ∧ pltF d nd (s.data.toList.drop k) k = pltF d nd s.data.toList 0 ∧ ∃ q, wx = w.drewN q

def RetB (b : Bool) (w : World) (e : Ending) (w' : World) : Prop := e = .returned (.bool b) ∧ ∃ q, w' = w.drewN q

set_option maxRecDepth 1000000 in
set_option maxHeartbeats 4000000 in
theorem plt (d : Nat → Nat) (nd g cap : Nat) (s : ByteArray) (w : World) (hnd : nd ≤ 800) (hs : s.size ≤ 1000) (hd : ∀ i, i < nd → w.cell? ⟨g, i, none⟩ = some (.int .u8 (d i))) :
    Calls Tryz.prog 137 #[.slice (some ⟨g, 0, none⟩) nd cap, .string s] w (RetB (pltF d nd s.data.toList 0) w) := by
  have HDG := Lib.hid hd
  clear hd
  go_enter Tryz.func137, Tryz.ntmps137
  go_wp2
  go_loopg [5] s.size (fun m i wx => Aside (PltR d nd s w m i wx))
  case atStart => exact ⟨0, by omega, by omega, rfl, rfl, 0, rfl⟩
  case round =>
    obtain ⟨k, hk, hm, rfl, hp, q, hq⟩ := hrel.out
    clear hrel
    subst hq
    have HM := Lib.hid hm
    have HP := Lib.hid hp
    clear hm hp
    by_cases hks : k < s.size
    · have hdr := str_drop s k hks
      have HDR := Lib.hid hdr
      clear hdr
      by_cases hkn : nd ≤ k
      · have hb : pltF d nd s.data.toList 0 = true := by rw [← HP.out, HDR.out, pltF, if_pos hkn]
        have HBB := Lib.hid hb
        clear hb
        have hkn2 : ¬ k < nd := by omega
        as_aux_lemma =>
        go_wp2
        go_ret
        exact ⟨by rw [HBB.out]; rfl, q, rfl⟩
      · have hc := HDG.out k (by omega)
        have hkn3 : k < nd := by omega
        by_cases he : d k = (s[k]'hks).toNat
        · have hb : pltF d nd (s.data.toList.drop (k + 1)) (k + 1) = pltF d nd s.data.toList 0 := by rw [← HP.out, HDR.out, pltF, if_neg hkn, if_pos he]
          have HBB := Lib.hid hb
          rw [he] at hc
          clear hb hkn he
          as_aux_lemma =>
          go_wp2
          go_quiet (fail)
          go_wp2
          go_roundg (s.size - (k + 1))
          case measure => have := HM.out; omega
          case rel => exact ⟨k + 1, by omega, rfl, by simp, HBB.out, _, rfl⟩
        · have hb : pltF d nd s.data.toList 0 = decide (d k < (s[k]'hks).toNat) := by rw [← HP.out, HDR.out, pltF, if_neg hkn, if_neg he]
          have HBB := Lib.hid hb
          have he2 : (((d k : Nat) : Int) != ((s[k]'hks).toNat : Int)) = true := by
            rw [bne_iff_ne]; omega
          clear hb hkn he
          as_aux_lemma =>
          go_wp2
          go_quiet (fail)
          go_wp2
          go_quiet (fail)
          go_wp2
          go_ret
          exact ⟨by rw [HBB.out]; rfl, _, by simp only [World.drewN_drewN]; rfl⟩
    · have hb : pltF d nd s.data.toList 0 = false := by
        rw [← HP.out, List.drop_eq_nil_of_le (by show s.size ≤ k; omega), pltF]
      have HBB := Lib.hid hb
      clear hb
      as_aux_lemma =>
      go_wp2
      go_ret
      exact ⟨by rw [HBB.out]; rfl, q, rfl⟩

end Go.Proofs.YtdabllkphibfmaaGreatDoor

/- rightShift: one answer. -/
namespace Go.Proofs.YtdabllkphibfmaaGreatDoor
open Go Go.RowKit
set_option linter.unusedSimpArgs false
set_option linter.unusedVariables false

def DigOk (d : Nat → Nat) (nd : Nat) : Prop := ∀ i, i < nd → 48 ≤ d i ∧ d i ≤ 57

/-- Nought after nought behind a number, till it has more than k bits. -/
def padN (k : Nat) : Nat → Nat → Nat → Nat × Nat
  | 0, n, r => (n, r)
  | f + 1, n, r => if 2 ^ k ≤ n then (n, r) else padN k f (n * 10) (r + 1)

/-- Digits, till the number has more than k bits. -/
def rs1 (d : Nat → Nat) (k : Nat) : Nat → Nat → Nat → Nat × Nat
  | 0, n, r => padN k 64 n r
  | f + 1, n, r => if 2 ^ k ≤ n then (n, r) else rs1 d k f (n * 10 + (d r - 48)) (r + 1)

def RsR (d : Nat → Nat) (nd k : Nat) (m : Nat) (r n : Value) : Prop :=
  ∃ n' r' : Nat, r' ≤ nd ∧ m = nd - r' ∧ r = .int .i64 r' ∧ n = .int .u64 n' ∧ n' < 10 * 2 ^ k ∧ (0 < r' → 0 < n') ∧ (r' = 0 → n' = 0) ∧ rs1 d k (nd - r') n' r' = rs1 d k nd 0 0

def PadR (k m : Nat) (N0 R0 : Nat) (r n : Value) : Prop :=
  ∃ m' n' r' : Nat, m = m' ∧ r = .int .i64 r' ∧ n = .int .u64 n' ∧ 0 < n' ∧ n' < 10 * 2 ^ k ∧ r' + m' ≤ 864 ∧ 1 ≤ r' ∧ 2 ^ k ≤ n' * 10 ^ m' ∧ padN k m' n' r' = padN k 64 N0 R0

theorem pad_step {k n m : Nat} (h : 2 ^ k ≤ n * 10 ^ (m + 1)) : 2 ^ k ≤ n * 10 * 10 ^ m := by
  rw [Nat.mul_assoc, ← Nat.pow_succ']
  exact h

theorem pad_start {k n : Nat} (hk : k ≤ 60) (hn : 0 < n) : 2 ^ k ≤ n * 10 ^ 64 := by
  have h1 := Nat.pow_le_pow_right (n := 2) (by decide) hk
  have h2 : (2 : Nat) ^ 60 ≤ 10 ^ 64 := by decide
  have h3 : 10 ^ 64 ≤ n * 10 ^ 64 := Nat.le_mul_of_pos_left _ hn
  omega

theorem padN_done {k n r : Nat} (h : 2 ^ k ≤ n) : ∀ f, padN k f n r = (n, r)
  | 0 => rfl
  | f + 1 => by rw [padN, if_pos h]

theorem rs1_done {d : Nat → Nat} {k n r : Nat} (h : 2 ^ k ≤ n) : ∀ f, rs1 d k f n r = (n, r)
  | 0 => padN_done h 64
  | f + 1 => by rw [rs1, if_pos h]

theorem rs_num (n c : Nat) : Value.int .u64 ((n : Int) * 10 + ((c : Int) + 48) - 48) = .int .u64 ((n * 10 + c : Nat) : Int) := by
  congr 1
  omega

theorem shr_lt {n k : Nat} (h : n < 2 ^ k) : ((n : Int) / 2 ^ k == 0) = true := by
  rw [beq_iff_eq]
  have : n / 2 ^ k = 0 := Nat.div_eq_of_lt h
  exact_mod_cast this
theorem shr_ge {n k : Nat} (h : 2 ^ k ≤ n) : ((n : Int) / 2 ^ k == 0) = false := by
  rw [beq_eq_false_iff_ne]
  have : 0 < n / 2 ^ k := Nat.div_pos h (Nat.two_pow_pos k)
  have h2 : ((n / 2 ^ k : Nat) : Int) ≠ 0 := by omega
  exact_mod_cast h2

/-- A digit put down for a digit that is picked up. -/
def rs3 (k : Nat) : Nat → (Nat → Nat) → Nat → Nat → Nat → (Nat → Nat) × Nat × Nat
  | 0, d, n, w, _ => (d, n, w)
  | f + 1, d, n, w, r => rs3 k f (upd d w (n / 2 ^ k + 48)) (n % 2 ^ k * 10 + (d r - 48)) (w + 1) (r + 1)

def Rs3 (g : Nat) (S : Dec) (k : Nat) (w : World) (r0 n0 : Nat) (m : Nat) (r wv n : Value) (wx : World) : Prop :=
  ∃ (d' : Nat → Nat) (n' w' r' : Nat), m = S.nd - r' ∧ r = .int .i64 r' ∧ wv = .int .i64 w' ∧ n = .int .u64 n' ∧ w' < r' ∧ (r' ≤ S.nd ∨ w' = 0) ∧ n' < 10 * 2 ^ k ∧ DigOk d' S.nd ∧ rs3 k (S.nd - r') d' n' w' r' = rs3 k (S.nd - r0) S.d n0 0 r0 ∧ DecAt g { S with d := d', dp := S.dp - ((r0 : Int) - 1) } wx ∧ Below g w wx

theorem mask_k (k : Nat) (hk : k ≤ 60) : ∃ M : Nat, IntKind.u64.wrap (IntKind.u64.wrap (2 ^ k) - 1) = M ∧ ∀ n : Nat, n < 18446744073709551616 → bits BinOp.and IntKind.u64 (n : Nat) (M : Nat) = ((n % 2 ^ k : Nat) : Int) := by
  have hp : (2 : Nat) ^ k ≤ 1152921504606846976 := by
    have := Nat.pow_le_pow_right (n := 2) (by decide) hk
    simpa using this
  have hpos : 0 < (2 : Nat) ^ k := Nat.two_pow_pos k
  refine ⟨2 ^ k - 1, ?_, fun n hn => ?_⟩
  · have e : (2 : Int) ^ k = ((2 ^ k : Nat) : Int) := by norm_cast
    rw [e]
    generalize hx : 2 ^ k = x at hp hpos
    simp only [IntKind.wrap, IntKind.signed, IntKind.bits]
    simp
    omega
  · rw [bits_and_u64_nat n _ hn (by omega), Nat.and_two_pow_sub_one_eq_mod]

/-- The digits that are still in the number. -/
def rs4 (k : Nat) : Nat → (Nat → Nat) → Nat → Nat → Bool → (Nat → Nat) × Nat × Bool
  | 0, d, _, w, tr => (d, w, tr)
  | f + 1, d, n, w, tr => if n = 0 then (d, w, tr) else if w < 800 then rs4 k f (upd d w (n / 2 ^ k + 48)) (n % 2 ^ k * 10) (w + 1) tr else rs4 k f d (n % 2 ^ k * 10) w (tr || decide (0 < n / 2 ^ k))

def Rs4 (g : Nat) (S : Dec) (k : Nat) (w : World) (dp : Int) (d0 : Nat → Nat) (n0 w0 : Nat) (m : Nat) (wv n : Value) (wx : World) : Prop :=
  ∃ (d' : Nat → Nat) (n' w' j : Nat) (tr : Bool), m = j ∧ wv = .int .i64 w' ∧ n = .int .u64 n' ∧ w' ≤ 800 ∧ n' < 10 * 2 ^ k ∧ (n' = 0 ∨ ∃ e, e + j = k + 1 ∧ e ≤ k ∧ 2 ^ e ∣ n') ∧ rs4 k j d' n' w' tr = rs4 k (k + 1) d0 n0 w0 S.tr ∧ DecAt g { S with d := d', dp := dp, tr := tr } wx ∧ Below g w wx

theorem rs4_zero {k : Nat} {d : Nat → Nat} {w : Nat} {tr : Bool} : ∀ j, rs4 k j d 0 w tr = (d, w, tr)
  | 0 => rfl
  | j + 1 => by rw [rs4, if_pos rfl]

theorem rs4_div {k n j : Nat} (hn : n ≠ 0) (h : n = 0 ∨ ∃ e, e + j = k + 1 ∧ e ≤ k ∧ 2 ^ e ∣ n) : ∃ j', j = j' + 1 ∧ (n % 2 ^ k * 10 = 0 ∨ ∃ e, e + j' = k + 1 ∧ e ≤ k ∧ 2 ^ e ∣ n % 2 ^ k * 10) := by
  rcases h with h | ⟨e, h1, h2, h3⟩
  · exact absurd h hn
  · refine ⟨j - 1, by omega, ?_⟩
    rcases Nat.lt_or_ge e k with h | h
    · refine .inr ⟨e + 1, by omega, by omega, ?_⟩
      have hd : 2 ^ e ∣ n % 2 ^ k := (Nat.dvd_mod_iff (Nat.pow_dvd_pow 2 h2)).2 h3
      obtain ⟨c, hc⟩ := hd
      rw [hc, Nat.pow_succ]
      exact ⟨c * 5, by rw [Nat.mul_assoc, Nat.mul_assoc]; congr 1; omega⟩
    · have e1 : e = k := by omega
      subst e1
      left
      rw [Nat.mod_eq_zero_of_dvd h3]

/-- rightShift, as a function. -/
def rsF (S : Dec) (k : Nat) : Dec :=
  let p1 := rs1 S.d k S.nd 0 0
  let p3 := rs3 k (S.nd - p1.2) S.d p1.1 0 p1.2
  let p4 := rs4 k (k + 1) p3.1 p3.2.1 p3.2.2 S.tr
  Dec.trim { d := p4.1, nd := p4.2.1, dp := S.dp - ((p1.2 : Int) - 1), neg := S.neg, tr := p4.2.2 }

theorem rs_end {g k n r n' w' w2 : Nat} {S : Dec} {w wr w3 : World} {d' d2 : Nat → Nat} {tr2 : Bool} (h1 : (n, r) = rs1 S.d k S.nd 0 0) (h3 : rs3 k (S.nd - r) S.d n 0 r = (d', n', w')) (h4 : rs4 k (k + 1) d' n' w' S.tr = (d2, w2, tr2))
    (hD : DecAt g (Dec.trim { d := d2, nd := w2, dp := S.dp - ((r : Int) - 1), neg := S.neg, tr := tr2 }) w3) (hb : Below g w wr) (hb2 : Below g wr w3) : DPost g (rsF S k) w (.returned (.tuple #[])) w3 := by
  refine ⟨rfl, ?_, hb.trans hb2⟩
  have e : rsF S k = Dec.trim { d := d2, nd := w2, dp := S.dp - ((r : Int) - 1), neg := S.neg, tr := tr2 } := by
    unfold rsF
    rw [← h1]
    simp only [h3, h4]
  rw [e]
  exact hD

set_option maxRecDepth 1000000 in
set_option maxHeartbeats 4000000 in
theorem rightShift (g : Nat) (S : Dec) (k : Nat) (w : World) (h : DecAt g S w) (hn : S.nd ≤ 800) (hd : DigOk S.d S.nd) (h1 : 1 ≤ S.nd) (h0 : S.d 0 ≠ 48) (hk : 1 ≤ k ∧ k ≤ 60) (hdp : -1000000000 ≤ S.dp ∧ S.dp ≤ 1000000000) : Calls Tryz.prog 131 #[.pointer (some ⟨g, 0, none⟩), .int .u64 k] w (DPost g (rsF S k) w) := by
  have H := Lib.hid h
  have HDG := Lib.hid hd
  obtain ⟨f1, f2, f3, f4, f5, f6⟩ := h.facts
  have HF6 := Lib.hid f6
  clear h hd f6
  have hpk : (2 : Nat) ^ k ≤ 1152921504606846976 := by
    have := Nat.pow_le_pow_right (n := 2) (by decide) hk.2
    simpa using this
  have hpos : 0 < (2 : Nat) ^ k := Nat.two_pow_pos k
  go_enter Tryz.func131, Tryz.ntmps131
  go_upto_block 0 with fail
  go_cut [4, 6] (fun r n wx => ∃ n' r' : Nat, r = .int .i64 r' ∧ n = .int .u64 n' ∧ (n', r') = rs1 S.d k S.nd 0 0 ∧ 2 ^ k ≤ n' ∧ n' < 10 * 2 ^ k ∧ r' ≤ 2000 ∧ 1 ≤ r' ∧ w = wx)
  case first =>
    go_wp2
    go_loopg [4, 6] S.nd (fun m r n wx => Aside (RsR S.d S.nd k m r n ∧ w = wx))
    case atStart => exact ⟨⟨0, 0, by omega, by omega, rfl, rfl, by omega, by omega, by omega, rfl⟩, rfl⟩
    case round =>
      obtain ⟨⟨n, r, hr, hm, rfl, rfl, hn10, hnp, hn0, hrs⟩, rfl⟩ := hrel.out
      clear hrel
      have HM := Lib.hid hm
      have HRS := Lib.hid hrs
      clear hm hrs
      by_cases hge : 2 ^ k ≤ n
      · have ht := shr_ge hge
        have hr1 : 1 ≤ r := by
          rcases Nat.eq_zero_or_pos r with h | h
          · have := hn0 h; omega
          · exact h
        as_aux_lemma =>
        go_wp2
        go_meet
        exact ⟨n, r, rfl, rfl, by rw [← HRS.out, rs1_done hge], hge, hn10, by omega, hr1, rfl⟩
      · have ht := shr_lt (Nat.lt_of_not_le hge)
        by_cases hrn : r < S.nd
        · have hdig := HF6.out r (by omega)
          have hdo := HDG.out r hrn
          obtain ⟨c, hc⟩ : ∃ c, S.d r = c + 48 := ⟨S.d r - 48, by omega⟩
          have hrs2 : rs1 S.d k (S.nd - (r + 1)) (n * 10 + c) (r + 1) = rs1 S.d k S.nd 0 0 := by
            rw [← HRS.out]
            have : S.nd - r = (S.nd - (r + 1)) + 1 := by omega
            rw [this, rs1, if_neg hge, hc, Nat.add_sub_cancel]
          have HR2 := Lib.hid hrs2
          have hcp : r = 0 → 0 < c := by
            intro h
            subst h
            omega
          rw [hc] at hdig hdo
          have hnb : n ≤ 1152921504606846975 := by omega
          have hn10' : n * 10 + c < 10 * 2 ^ k := by omega
          have hpp : 0 < n * 10 + c := by
            rcases Nat.eq_zero_or_pos r with h | h
            · have := hcp h; omega
            · have := hnp h; omega
          have HN := Lib.hid hn10'
          clear hrs2 hge hc hn10' hn10 hnp hn0 hcp hpk hpos
          as_aux_lemma =>
          go_wp2
          go_roundg (S.nd - (r + 1))
          case measure => have := HM.out; omega
          case rel => exact ⟨⟨n * 10 + c, r + 1, by omega, rfl, by simp, rs_num n c, HN.out, fun _ => hpp, by omega, HR2.out⟩, rfl⟩
        · have hrn2 : r = S.nd := by omega
          have hnp2 : 0 < n := hnp (by omega)
          have hpd : padN k 64 n r = rs1 S.d k S.nd 0 0 := by
            rw [← HRS.out, hrn2, Nat.sub_self, rs1]
          have HPD := Lib.hid hpd
          have hnz : ((n : Int) == 0) = false := beq_eq_false_iff_ne.2 (by omega)
          have hrge : ¬ r < S.nd := hrn
          have hst := pad_start hk.2 hnp2
          have HST := Lib.hid hst
          have hrb : r + 64 ≤ 864 := by omega
          have hr1 : 1 ≤ r := by omega
          clear hpd hnp hn0 hge hst
          as_aux_lemma =>
          go_wp2
          go_loopg [4, 6] 64 (fun m r' n' wx => Aside (PadR k m n r r' n' ∧ w = wx))
          case atStart => exact ⟨⟨64, n, r, rfl, rfl, rfl, hnp2, hn10, hrb, hr1, HST.out, rfl⟩, rfl⟩
          case round =>
            obtain ⟨⟨m2, n2, r2, hm2, rfl, rfl, p1, p2, p3, p4, p5, p6⟩, rfl⟩ := hrel.out
            clear hrel
            have HM2 := Lib.hid hm2
            clear hm2
            have P5 := Lib.hid p5
            have P6 := Lib.hid p6
            clear p5 p6
            by_cases hge2 : 2 ^ k ≤ n2
            · have ht2 := shr_ge hge2
              as_aux_lemma =>
              go_wp2
              go_meet
              exact ⟨n2, r2, rfl, rfl, by rw [← HPD.out, ← P6.out, padN_done hge2], hge2, p2, by omega, p4, rfl⟩
            · have ht2 := shr_lt (Nat.lt_of_not_le hge2)
              have hlt2 : n2 < 2 ^ k := Nat.lt_of_not_le hge2
              rcases m2 with _ | m3
              · exact absurd P5.out (by simp; omega)
              · have hp7 : padN k m3 (n2 * 10) (r2 + 1) = padN k 64 n r := by rw [← P6.out, padN, if_neg hge2]
                have P7 := Lib.hid hp7
                have P8 := Lib.hid (pad_step P5.out)
                have hnb2 : n2 ≤ 1152921504606846975 := by omega
                have hn102 : n2 * 10 < 10 * 2 ^ k := by omega
                have HN2 := Lib.hid hn102
                clear hp7 hge2 hlt2 hn102 p2 hpk hpos hn10
                as_aux_lemma =>
                go_wp2
                go_roundg m3
                case measure => have := HM2.out; omega
                case rel => exact ⟨⟨m3, n2 * 10, r2 + 1, rfl, by simp, by simp, by omega, HN2.out, by omega, by omega, P8.out, P7.out⟩, rfl⟩
  case rest =>
    obtain ⟨n, r, rfl, rfl, hnr, hge, hn10, hr2, hr1, rfl⟩ := hcut
    have HNR := Lib.hid hnr
    clear hnr
    have HB0 := Lib.hid (H.out.setDp (S.dp - ((r : Int) - 1)))
    obtain ⟨M, hmk, hmand⟩ := mask_k k hk.2
    have HMAND := Lib.hid hmand
    clear hmand
    go_wp2
    go_loopg [4, 5, 6] (S.nd - r) (fun m r' w' n' wx => Aside (Rs3 g S k w r n m r' w' n' wx))
    case atStart => exact ⟨S.d, n, 0, r, rfl, rfl, rfl, rfl, by omega, .inr rfl, hn10, HDG.out, rfl, HB0.out, (Below.refl g w).setCell (Nat.le_refl _) _⟩
    case round =>
      obtain ⟨d', n', w', r', hm, rfl, rfl, rfl, hwr, hwn, hn10', hdo, hrs, hD, hbl⟩ := hrel.out
      clear hrel
      have HM := Lib.hid hm
      have HRS := Lib.hid hrs
      have HD := Lib.hid hD
      have HBL := Lib.hid hbl
      obtain ⟨e1, e2, e3, e4, e5, e6⟩ := hD.facts
      have HE6 := Lib.hid e6
      have HDO := Lib.hid hdo
      clear hm hrs hD hbl e6 hdo
      by_cases hrn : r' < S.nd
      · have hdig := HE6.out r' (by omega)
        have hdg2 := HDO.out r' hrn
        simp only at hdig
        obtain ⟨c, hc⟩ : ∃ c, d' r' = c + 48 := ⟨d' r' - 48, by omega⟩
        obtain ⟨q, hq⟩ : ∃ q : Nat, q = n' / 2 ^ k := ⟨_, rfl⟩
        obtain ⟨t, ht⟩ : ∃ t : Nat, t = n' % 2 ^ k := ⟨_, rfl⟩
        have hqi : (n' : Int) / 2 ^ k = q := by rw [hq]; exact (by exact_mod_cast rfl)
        have hq9 : q ≤ 9 := by
          have := Nat.div_lt_of_lt_mul (show n' < 2 ^ k * 10 by omega)
          omega
        have htk : t < 2 ^ k := by rw [ht]; exact Nat.mod_lt _ hpos
        have hti : bits BinOp.and IntKind.u64 (n' : Nat) (M : Nat) = (t : Nat) := by rw [ht]; exact HMAND.out n' (by omega)
        have htb : t ≤ 1152921504606846975 := by omega
        rw [hc] at hdig hdg2
        have hrs2 : rs3 k (S.nd - (r' + 1)) (upd d' w' (q + 48)) (t * 10 + c) (w' + 1) (r' + 1) = rs3 k (S.nd - r) S.d n 0 r := by
          rw [← HRS.out, hq, ht]
          have : S.nd - r' = (S.nd - (r' + 1)) + 1 := by omega
          rw [this, rs3, hc, Nat.add_sub_cancel]
        have HR2 := Lib.hid hrs2
        have hdo2 : DigOk (upd d' w' (q + 48)) S.nd := by
          intro i hi
          unfold upd
          split
          · omega
          · exact HDO.out i hi
        have HDO2 := Lib.hid hdo2
        have HTN := Lib.hid (show t * 10 + c < 10 * 2 ^ k by omega)
        have hw8 : w' < 800 := by omega
        have hcw := HE6.out w' hw8
        simp only at hcw
        clear hrs2 hdo2 htk hc hq ht hn10' hn10 hge hpk hpos hwn
        as_aux_lemma =>
        go_wp2
        go_roundg (S.nd - (r' + 1))
        case measure => have := HM.out; omega
        case rel => exact ⟨upd d' w' (q + 48), t * 10 + c, w' + 1, r' + 1, rfl, by simp, by simp, rs_num t c, by omega, .inl (by omega), HTN.out, HDO2.out, HR2.out, by simpa using HD.out.put w' (q + 48) hw8, HBL.out.setCell (Nat.le_refl _) _⟩
      · have hrs3 : rs3 k (S.nd - r) S.d n 0 r = (d', n', w') := by
          rw [← HRS.out]
          have : S.nd - r' = 0 := by omega
          rw [this, rs3]
        have HR3 := Lib.hid hrs3
        have hw8 : w' ≤ 800 := by omega
        have hrg : ¬ r' < S.nd := hrn
        clear hrs3 hwr hwn
        go_wp2
        go_loopg [5, 6] (k + 1) (fun m wv nv wx => Aside (Rs4 g S k w (S.dp - ((r : Int) - 1)) d' n' w' m wv nv wx))
        case atStart => exact ⟨d', n', w', k + 1, S.tr, rfl, rfl, rfl, hw8, hn10', .inr ⟨0, by omega, by omega, ⟨n', by simp⟩⟩, rfl, HD.out, HBL.out⟩
        case round =>
          obtain ⟨d2, n2, w2, j, tr2, hm2, rfl, rfl, hw82, hn102, hdiv, hrs4, hD2, hbl2⟩ := hrel.out
          clear hrel
          have HM2 := Lib.hid hm2
          have HDIV := Lib.hid hdiv
          have HRS4 := Lib.hid hrs4
          have HD2 := Lib.hid hD2
          have HBL2 := Lib.hid hbl2
          obtain ⟨b1, b2, b3, b4, b5, b6⟩ := hD2.facts
          clear hm2 hdiv hrs4 hD2 hbl2 b6
          by_cases hz : n2 = 0
          · subst hz
            have hfin : rs4 k (k + 1) d' n' w' S.tr = (d2, w2, tr2) := by rw [← HRS4.out, rs4_zero]
            have HFIN := Lib.hid hfin
            clear hfin
            have hD3 := HD2.out.setNd w2
            have htr := trim g _ _ hD3 hw82
            have HTR := Lib.hid htr
            clear hD3 htr hn10' hn10 hge hpk hpos
            as_aux_lemma =>
            go_wp2_with (first | (go_at_call 138; refine (HTR.out).mono ?_; rintro e w3 ⟨rfl, hD4, hb4⟩; have HD4 := Lib.hid hD4; have HB4 := Lib.hid hb4; clear hD4 hb4))
            go_end0
            exact rs_end HNR.out HR3.out HFIN.out HD4.out (HBL2.out.setCell (Nat.le_refl _) _) HB4.out
          · obtain ⟨j', hj, hdiv2⟩ := rs4_div hz HDIV.out
            obtain ⟨q, hq⟩ : ∃ q : Nat, q = n2 / 2 ^ k := ⟨_, rfl⟩
            obtain ⟨t, ht⟩ : ∃ t : Nat, t = n2 % 2 ^ k := ⟨_, rfl⟩
            have hqi : (n2 : Int) / 2 ^ k = q := by rw [hq]; exact (by exact_mod_cast rfl)
            have hq9 : q ≤ 9 := by
              have := Nat.div_lt_of_lt_mul (show n2 < 2 ^ k * 10 by omega)
              omega
            have htk : t < 2 ^ k := by rw [ht]; exact Nat.mod_lt _ hpos
            have hti : bits BinOp.and IntKind.u64 (n2 : Nat) (M : Nat) = (t : Nat) := by rw [ht]; exact HMAND.out n2 (by omega)
            have htb : t ≤ 1152921504606846975 := by omega
            have HTN := Lib.hid (show t * 10 < 10 * 2 ^ k by omega)
            rw [← ht] at hdiv2
            have HDV := Lib.hid hdiv2
            have HJ := Lib.hid hj
            have hpos2 : 0 < n2 := by omega
            clear hdiv2
            by_cases hw3 : w2 < 800
            · have hcw := HD2.out.facts.dig w2 hw3
              simp only at hcw
              have hrs5 : rs4 k j' (upd d2 w2 (q + 48)) (t * 10) (w2 + 1) tr2 = rs4 k (k + 1) d' n' w' S.tr := by
                rw [← HRS4.out, hj, rs4, if_neg hz, if_pos hw3, hq, ht]
              have HR5 := Lib.hid hrs5
              clear hrs5 htk hq ht hn10' hn10 hn102 hge hpk hpos hj hz
              as_aux_lemma =>
              go_wp2
              go_roundg j'
              case measure => have := HM2.out; have := HJ.out; omega
              case rel => exact ⟨upd d2 w2 (q + 48), t * 10, w2 + 1, j', tr2, rfl, by simp, by simp, by omega, HTN.out, HDV.out, HR5.out, by simpa using HD2.out.put w2 (q + 48) hw3, HBL2.out.setCell (Nat.le_refl _) _⟩
            · by_cases hq0 : 0 < q
              · have hrs5 : rs4 k j' d2 (t * 10) w2 true = rs4 k (k + 1) d' n' w' S.tr := by
                  rw [← HRS4.out, hj, rs4, if_neg hz, if_neg hw3, ← hq, ← ht, decide_eq_true hq0, Bool.or_true]
                have HR5 := Lib.hid hrs5
                clear hrs5 htk hq ht hn10' hn10 hn102 hge hpk hpos hj hz
                as_aux_lemma =>
                go_wp2
                go_roundg j'
                case measure => have := HM2.out; have := HJ.out; omega
                case rel => exact ⟨d2, t * 10, w2, j', true, rfl, rfl, by simp, hw82, HTN.out, HDV.out, HR5.out, HD2.out.setTr true, HBL2.out.setCell (Nat.le_refl _) _⟩
              · have hrs5 : rs4 k j' d2 (t * 10) w2 tr2 = rs4 k (k + 1) d' n' w' S.tr := by
                  rw [← HRS4.out, hj, rs4, if_neg hz, if_neg hw3, ← hq, ← ht, decide_eq_false hq0, Bool.or_false]
                have HR5 := Lib.hid hrs5
                clear hrs5 htk hq ht hn10' hn10 hn102 hge hpk hpos hj hz
                as_aux_lemma =>
                go_wp2
                go_roundg j'
                case measure => have := HM2.out; have := HJ.out; omega
                case rel => exact ⟨d2, t * 10, w2, j', tr2, rfl, rfl, by simp, hw82, HTN.out, HDV.out, HR5.out, HD2.out, HBL2.out⟩

end Go.Proofs.YtdabllkphibfmaaGreatDoor
