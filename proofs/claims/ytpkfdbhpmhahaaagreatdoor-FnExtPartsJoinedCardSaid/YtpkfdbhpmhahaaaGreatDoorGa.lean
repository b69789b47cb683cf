/- What all walks of this seat use: worlds that keep what was there, rows, bytes, blocks of known cells. -/
import Derived.Test.YtpkfdbhpmhahaaaGreatDoorProg
import Derived.WalkKit
import Derived.RowKitTokens
import Derived.Deep.Draws
import Derived.Deep.AppendLies
import Derived.Deep.QuietTactic
import Derived.Deep.CutBlock
import Derived.Deep.RegionWith
import Derived.Deep.RegionHeld3
import Derived.Lib.AppendStr
import Derived.Deep.DeepCutAuto
import Derived.Deep.Light
import Derived.BigQuiet
import Derived.Lib.ConvBytes
import Derived.Lib.BufferKept
import Derived.Lib.BufferOld
import Derived.Laws.CopyOwn
import Derived.Laws.BitsLemmas
import Derived.Laws.Externs
import Derived.Lib.Hide
namespace Go.Proofs.YtpkfdbhpmhahaaaGreatDoor
open Go Go.RowKit
set_option linter.unusedSimpArgs false
set_option linter.unusedVariables false

theorem lt_of_heap {w : World} {g : Nat} {o : Obj} (hg : w.heap[g]? = some o) : g < w.heap.size := by
  rcases Nat.lt_or_ge g w.heap.size with h' | h'
  · exact h'
  · simp [Array.getElem?_eq_none h'] at hg

/-- What was there is as it was. -/
structure Old (w0 w : World) : Prop where
  size : w0.heap.size ≤ w.heap.size
  block : ∀ k, k < w0.heap.size → w.heap[k]? = w0.heap[k]?

theorem Old.refl (w : World) : Old w w := ⟨Nat.le_refl _, fun _ _ => rfl⟩
theorem Old.below {w0 w w' : World} {B : Nat} (h : Old w0 w) (hb : Below B w w') (hB : w0.heap.size ≤ B) : Old w0 w' :=
  ⟨Nat.le_trans h.size hb.size, fun k hk => (hb.block k (by omega)).trans (h.block k hk)⟩
theorem Old.trans {a b c : World} (h : Old a b) (k : Old b c) : Old a c := ⟨Nat.le_trans h.size k.size, fun i hi => (k.block i (by have := h.size; omega)).trans (h.block i hi)⟩
theorem Old.cell {w0 w : World} (h : Old w0 w) {g o : Nat} {v : Value} (hc : w0.cell? ⟨g, o, none⟩ = some v) : w.cell? ⟨g, o, none⟩ = some v :=
  (World.cell?_of_block (a := ⟨g, o, none⟩) (h.block g (World.block_lt_of_cell? w0 ⟨g, o, none⟩ hc))).trans hc
theorem Old.cellA {w0 w : World} (h : Old w0 w) {p : Addr} {v : Value} (hc : w0.cell? p = some v) : w.cell? p = some v :=
  (World.cell?_of_block (h.block p.block (World.block_lt_of_cell? w0 p hc))).trans hc
theorem old_bel {w w' : World} (h : Below w.heap.size w w') : Old w w' := (Old.refl w).below h (Nat.le_refl _)
theorem below_dn {B : Nat} {w w' : World} (h : Below B w w') (n : Nat) : Below B w (w'.drewN n) := ⟨h.os, h.tape, h.output, h.size, h.block⟩
theorem below_drew {B : Nat} {w w' : World} (h : Below B w w') : Below B w w'.drew := ⟨h.os, h.tape, h.output, h.size, h.block⟩

theorem ownsRow_of {w w' : World} {base e size n : Nat} {v : Value} {xs : List Value} (h : w.ownsRow base e size v n xs) (hk : ∀ k, v.ownBlock = some k → w'.heap[k]? = w.heap[k]?) : w'.ownsRow base e size v n xs := by
  refine ⟨h.1, ?_⟩
  rcases h.2 with hn | ⟨g, cap, cur, rfl, hb, hh, hr⟩
  · exact .inl hn
  · exact .inr ⟨g, cap, cur, rfl, hb, (hk g rfl).trans hh, hr⟩
theorem row_sl {w : World} {B e k n : Nat} {v : Value} {xs : List Value} (h : w.ownsRow B e k v n xs) : ∃ ao cap, v = .slice ao n cap := by
  rcases h.2 with ⟨rfl, h0⟩ | ⟨g, cap, cur, rfl, _⟩
  · exact ⟨none, 0, by rw [h0]⟩
  · exact ⟨_, _, rfl⟩

theorem byteCells_length (l : List UInt8) : (Lib.byteCells l).length = l.length := by simp [Lib.byteCells]
theorem byteCells_get (l : List UInt8) (i : Nat) : (Lib.byteCells l)[i]? = (l[i]?).map fun b => Value.int .u8 b.toNat := by simp [Lib.byteCells]
theorem byteCells_oneCell (l : List UInt8) : ∀ v ∈ Lib.byteCells l, v.oneCell' = true := by
  intro v hv
  simp only [Lib.byteCells, List.mem_map] at hv
  obtain ⟨b, _, rfl⟩ := hv
  rfl
theorem row_cell {w : World} {g : Nat} {cur : Array Value} {fr : Nat × Nat} {e : TypeId} {bs : List UInt8} (h : w.heap[g]? = some (.cells cur e fr)) (ht : cur.toList.take bs.length = Lib.byteCells bs) (i : Nat) (hi : i < bs.length) :
    w.cell? ⟨g, i, none⟩ = some (.int .u8 (bs[i]'hi).toNat) := by
  have h2 : (cur.toList.take bs.length)[i]? = (Lib.byteCells bs)[i]? := by rw [ht]
  rw [byteCells_get, List.getElem?_take, if_pos hi, List.getElem?_eq_getElem hi] at h2
  simp [World.cell?, h]
  simpa using h2

theorem cell1 {w : World} {r : Nat} {x : Value} {T : TypeId} (h : w.heap[r]? = some (.cells #[x] T (0, 0))) : w.cell? ⟨r, 0, none⟩ = some x ∧ (∀ o, w.frozen? ⟨r, o, none⟩ = false) :=
  ⟨by simp [World.cell?, h], fun o => by simp [World.frozen?, h]⟩
theorem cell3 {w : World} {r : Nat} {x y z : Value} {T : TypeId} (h : w.heap[r]? = some (.cells #[x, y, z] T (0, 0))) :
    w.cell? ⟨r, 0, none⟩ = some x ∧ w.cell? ⟨r, 1, none⟩ = some y ∧ w.cell? ⟨r, 2, none⟩ = some z ∧ (∀ o, w.frozen? ⟨r, o, none⟩ = false) :=
  ⟨by simp [World.cell?, h], by simp [World.cell?, h], by simp [World.cell?, h], fun o => by simp [World.frozen?, h]⟩
theorem heap_set {w : World} {r o : Nat} {c : Array Value} {T : TypeId} {v : Value} (h : w.heap[r]? = some (.cells c T (0, 0))) : (w.setCell ⟨r, o, none⟩ v).heap[r]? = some (.cells (c.setIfInBounds o v) T (0, 0)) := by
  simp [World.setCell, Array.getElem?_modify, h]
theorem heap_set_ne {w : World} {r k o : Nat} {v : Value} (h : k ≠ r) : (w.setCell ⟨r, o, none⟩ v).heap[k]? = w.heap[k]? := Below.heap_setCell _ _ _ _ h

theorem str_drop (s : ByteArray) (i : Nat) (h : i < s.size) : s.data.toList.drop i = s[i]'h :: s.data.toList.drop (i + 1) := by
  rw [List.drop_eq_getElem_cons (by simpa using h)]
  rfl
theorem byte_ne' {c k : UInt8} (h : c ≠ k) : ((c.toNat : Int) == (k.toNat : Int)) = false := by
  simp only [beq_eq_false_iff_ne, ne_eq]
  intro he
  exact h (UInt8.toNat_inj.1 (by omega))
theorem byte_all {p : UInt8 → Prop} (h : ∀ k : _root_.Fin 256, p (UInt8.ofNat k.val)) (c : UInt8) : p c := by
  have := h ⟨c.toNat, c.toNat_lt⟩
  simpa only [UInt8.ofNat_toNat] using this
theorem byte_key (c k : UInt8) : ((c.toNat : Int) == (k.toNat : Int)) = (c == k) := by
  rw [Bool.eq_iff_iff]
  simp only [beq_iff_eq]
  constructor
  · intro h
    exact UInt8.toNat_inj.1 (by omega)
  · rintro rfl; rfl
theorem not_empty {s : ByteArray} (hn : 0 < s.size) : s.toList.isEmpty = false := by
  rw [ByteArray.toList_eq]
  cases h : s.data.toList with
  | nil => have : s.data.toList.length = s.size := rfl; rw [h] at this; simp at this; omega
  | cons a l => rfl
theorem not_nil' {s : ByteArray} (hn : 0 < s.size) : ¬ s.toList = [] := by
  intro h
  have := not_empty hn
  rw [h] at this
  cases this

end Go.Proofs.YtpkfdbhpmhahaaaGreatDoor

/- The guards' leaves: the size, known kinds, plain texts, UTF-8. -/
namespace Go.Proofs.YtpkfdbhpmhahaaaGreatDoor
open Go Go.RowKit
set_option linter.unusedSimpArgs false
set_option linter.unusedVariables false

def Known (k : Int) : Prop := (1 ≤ k ∧ k ≤ 19) ∨ k = 255 ∨ k = 127

/-- It answers with a bool of which R holds, and reads alone. -/
def Ans (R : Bool → Prop) (w : World) (e : Ending) (w' : World) : Prop := ∃ r : Bool, e = .returned (.bool r) ∧ R r ∧ w' = w

/-- DocKnown. -/
theorem docKnown (k : Int) (w : World) : Calls Tryz.prog 33 #[.int .i64 k] w (Ans (fun r => r = true ↔ Known k) w) := by
  by_cases h1 : 1 ≤ k
  · by_cases h2 : k ≤ 19
    · go_enter Tryz.func33, Tryz.ntmps33
      go_wp2
      go_ret
      exact ⟨_, rfl, by simp [Known, h1, h2], rfl⟩
    · by_cases h3 : k = 255
      · subst h3
        go_enter Tryz.func33, Tryz.ntmps33
        go_wp2
        go_ret
        exact ⟨_, rfl, by simp [Known], rfl⟩
      · by_cases h4 : k = 127
        · subst h4
          go_enter Tryz.func33, Tryz.ntmps33
          go_wp2
          go_ret
          exact ⟨_, rfl, by simp [Known], rfl⟩
        · have e3 : (k == 255) = false := beq_eq_false_iff_ne.2 h3
          have e4 : (k == 127) = false := beq_eq_false_iff_ne.2 h4
          go_enter Tryz.func33, Tryz.ntmps33
          go_wp2
          go_ret
          exact ⟨_, rfl, by simp [Known]; omega, rfl⟩
  · have e3 : (k == 255) = false := beq_eq_false_iff_ne.2 (by omega)
    have e4 : (k == 127) = false := beq_eq_false_iff_ne.2 (by omega)
    go_enter Tryz.func33, Tryz.ntmps33
    go_wp2
    go_ret
    exact ⟨_, rfl, by simp [Known]; omega, rfl⟩

set_option maxRecDepth 100000 in
/-- DocPlain answers. -/
theorem docPlain (s : ByteArray) (hl : s.size ≤ 9223372036854775807) (w : World) : Calls Tryz.prog 35 #[.string s] w (Ans (fun _ => True) w) := by
  go_enter Tryz.func35, Tryz.ntmps35
  go_wp2
  go_loopg [3] s.size (fun m v wx => Aside (∃ i : Nat, m = s.size - i ∧ i ≤ s.size ∧ v = .int .i64 (i : Nat)) ∧ wx = w)
  case atStart => exact ⟨⟨0, rfl, by omega, rfl⟩, rfl⟩
  case round =>
    obtain ⟨hr, rfl⟩ := hrel
    obtain ⟨i, rfl, hi, rfl⟩ := hr.out
    clear hr
    by_cases hlt : i < s.size
    · obtain ⟨c, hc⟩ : ∃ c, s[i]'hlt = c := ⟨_, rfl⟩
      cases hz : ((c.toNat : Int) == 0) with
      | true =>
        go_wp2
        go_ret
        exact ⟨_, rfl, trivial, rfl⟩
      | false =>
        go_wp2
        go_roundg (s.size - (i + 1))
        case measure => omega
        case rel => exact ⟨⟨i + 1, rfl, by omega, rfl⟩, rfl⟩
    · go_wp2
      go_ret
      exact ⟨_, rfl, trivial, rfl⟩

end Go.Proofs.YtpkfdbhpmhahaaaGreatDoor

/- A tenth of a number of 128 bits: decTenth. -/
namespace Go.Proofs.YtpkfdbhpmhahaaaGreatDoor
open Go Go.RowKit
set_option linter.unusedSimpArgs false
set_option linter.unusedVariables false

theorem wraps_u64 (n : Int) (h0 : 0 ≤ n) (h1 : n < 2 ^ 64) : IntKind.u64.wrap n = n := by
  have : IntKind.u64.wrap n = n % 18446744073709551616 := by simp [IntKind.wrap, IntKind.bits, IntKind.signed]
  rw [this]; omega
theorem and32 (x : Nat) (h : x < 18446744073709551616) : bits .and .u64 x 4294967295 = ((x % 4294967296 : Nat) : Int) :=
  (bits_mask .u64 64 (by decide) wraps_u64 32 (by decide) x (by omega) (by omega)).trans (by omega)
theorem or32 (r l : Nat) (hr : r < 4294967296) (hl : l < 4294967296) : bits .or .u64 ((r : Int) * 4294967296) (l : Nat) = ((r * 4294967296 + l : Nat) : Int) :=
  (bits_join .u64 64 (by decide) wraps_u64 32 ((r : Int) * 4294967296) l (by omega) (by omega) (by omega) (by omega) (by omega) (by omega)).trans (by omega)

def TenthPost (hi lo : Nat) (w : World) (e : Ending) (w' : World) : Prop :=
  ∃ hi' lo' d : Nat, e = .returned (.tuple #[.int .u64 hi', .int .u64 lo', .int .u8 d]) ∧ d < 10 ∧ hi' < 18446744073709551616 ∧ lo' < 18446744073709551616 ∧ (hi' * 18446744073709551616 + lo') * 10 + d = hi * 18446744073709551616 + lo ∧ Below w.heap.size w w'

/-- What stands in the array, and what is left, behind i steps. -/
def TnR (l0 l1 l2 l3 : Nat) (w : World) (m : Nat) (v8 v20 : Value) (wx : World) : Prop :=
  ∃ (i r x0 x1 x2 x3 : Nat), m = 4 - i ∧ i ≤ 4 ∧ v20 = .int .i64 (i : Nat) ∧ v8 = .int .u64 (r : Nat) ∧ r < 10 ∧ wx.heap[w.heap.size]? = some (.cells #[.int .u64 (x0 : Nat), .int .u64 (x1 : Nat), .int .u64 (x2 : Nat), .int .u64 (x3 : Nat)] 132 (0, 0)) ∧ Below w.heap.size w wx ∧
    x0 < 4294967296 ∧ x1 < 4294967296 ∧ x2 < 4294967296 ∧ x3 < 4294967296 ∧
    (i = 0 → r = 0 ∧ x0 = l0 ∧ x1 = l1 ∧ x2 = l2 ∧ x3 = l3) ∧ (i = 1 → x0 * 10 + r = l0 ∧ x1 = l1 ∧ x2 = l2 ∧ x3 = l3) ∧ (i = 2 → (x0 * 4294967296 + x1) * 10 + r = l0 * 4294967296 + l1 ∧ x2 = l2 ∧ x3 = l3) ∧
    (i = 3 → (x0 * 18446744073709551616 + x1 * 4294967296 + x2) * 10 + r = l0 * 18446744073709551616 + l1 * 4294967296 + l2 ∧ x3 = l3) ∧
    (i = 4 → (x0 * 79228162514264337593543950336 + x1 * 18446744073709551616 + x2 * 4294967296 + x3) * 10 + r = l0 * 79228162514264337593543950336 + l1 * 18446744073709551616 + l2 * 4294967296 + l3)

theorem tn_e (a b : Nat) : (a * 4294967296 + b) * 18446744073709551616 = a * 79228162514264337593543950336 + b * 18446744073709551616 := by
  rw [Nat.add_mul, Nat.mul_assoc, show 4294967296 * 18446744073709551616 = 79228162514264337593543950336 from by decide]
theorem tn_fin {x0 x1 x2 x3 l0 l1 l2 l3 r : Nat} (h : (x0 * 79228162514264337593543950336 + x1 * 18446744073709551616 + x2 * 4294967296 + x3) * 10 + r = l0 * 79228162514264337593543950336 + l1 * 18446744073709551616 + l2 * 4294967296 + l3) :
    ((x0 * 4294967296 + x1) * 18446744073709551616 + (x2 * 4294967296 + x3)) * 10 + r = (l0 * 4294967296 + l1) * 18446744073709551616 + (l2 * 4294967296 + l3) := by
  rw [tn_e, tn_e, ← Nat.add_assoc, ← Nat.add_assoc]
  exact h

theorem cell4 {w : World} {r : Nat} {x y z v : Value} {T : TypeId} (h : w.heap[r]? = some (.cells #[x, y, z, v] T (0, 0))) :
    w.cell? ⟨r, 0, none⟩ = some x ∧ w.cell? ⟨r, 1, none⟩ = some y ∧ w.cell? ⟨r, 2, none⟩ = some z ∧ w.cell? ⟨r, 3, none⟩ = some v ∧ (∀ o, w.frozen? ⟨r, o, none⟩ = false) :=
  ⟨by simp [World.cell?, h], by simp [World.cell?, h], by simp [World.cell?, h], by simp [World.cell?, h], fun o => by simp [World.frozen?, h]⟩

theorem below_set {B : Nat} {w w' : World} (h : Below B w w') {g o : Nat} (hg : B ≤ g) (v : Value) : Below B w (w'.setCell ⟨g, o, none⟩ v) :=
  ⟨h.os, h.tape, h.output, by simpa [World.setCell] using h.size, fun k hk => (heap_set_ne (by omega)).trans (h.block k hk)⟩

set_option maxRecDepth 100000 in
set_option maxHeartbeats 4000000 in
theorem decTenth (hi lo : Nat) (hh : hi < 18446744073709551616) (hl : lo < 18446744073709551616) (w : World) : Calls Tryz.prog 73 #[.int .u64 hi, .int .u64 lo] w (TenthPost hi lo w) := by
  obtain ⟨l0, h0⟩ : ∃ l0 : Nat, l0 = hi / 4294967296 := ⟨_, rfl⟩
  obtain ⟨l1, h1⟩ : ∃ l1 : Nat, l1 = hi % 4294967296 := ⟨_, rfl⟩
  obtain ⟨l2, h2⟩ : ∃ l2 : Nat, l2 = lo / 4294967296 := ⟨_, rfl⟩
  obtain ⟨l3, h3⟩ : ∃ l3 : Nat, l3 = lo % 4294967296 := ⟨_, rfl⟩
  have e0 : (hi : Int) / 4294967296 = (l0 : Nat) := by omega
  have e2 : (lo : Int) / 4294967296 = (l2 : Nat) := by omega
  have e1 : bits .and .u64 hi 4294967295 = (l1 : Nat) := by rw [and32 hi hh, h1]
  have e3 : bits .and .u64 lo 4294967295 = (l3 : Nat) := by rw [and32 lo hl, h3]
  have HF : Hid (hi = l0 * 4294967296 + l1 ∧ lo = l2 * 4294967296 + l3 ∧ l0 < 4294967296 ∧ l1 < 4294967296 ∧ l2 < 4294967296 ∧ l3 < 4294967296) := Lib.hid (by omega)
  clear h0 h1 h2 h3
  have HHH := Lib.hid hh
  have HLL := Lib.hid hl
  clear hh hl
  go_enter Tryz.func73, Tryz.ntmps73
  go_wp2
  clear e0 e1 e2 e3
  have HW := Lib.hid (heap_alloc_new w (.cells #[.int .u64 (l0 : Nat), .int .u64 (l1 : Nat), .int .u64 (l2 : Nat), .int .u64 (l3 : Nat)] 132))
  have HB := Lib.hid (((Below.refl w.heap.size w).alloc (Nat.le_refl _) (.cells #[.int .u64 (l0 : Nat), .int .u64 (l1 : Nat), .int .u64 (l2 : Nat), .int .u64 (l3 : Nat)] 132)))
  go_loopg [8, 20] 4 (fun m v8 v20 wx => Aside (TnR l0 l1 l2 l3 w m v8 v20 wx))
  case atStart => exact ⟨0, 0, l0, l1, l2, l3, rfl, by omega, rfl, rfl, by omega, HW.out, HB.out, HF.out.2.2.1, HF.out.2.2.2.1, HF.out.2.2.2.2.1, HF.out.2.2.2.2.2, fun _ => ⟨rfl, rfl, rfl, rfl, rfl⟩, by omega, by omega, by omega, by omega⟩
  case round =>
    obtain ⟨i, r, x0, x1, x2, x3, rfl, hile, rfl, rfl, hr, hh2, hb2, b0, b1, b2, b3, hinv⟩ := hrel.out
    clear hrel HW HB
    have HI := Lib.hid hinv
    have HH := Lib.hid hh2
    have HB2 := Lib.hid hb2
    clear hinv hb2
    obtain ⟨c0, c1, c2, c3, cf⟩ := cell4 hh2
    have HX := Lib.hid (And.intro b0 (And.intro b1 (And.intro b2 b3)))
    clear hh2
    by_cases h4 : i < 4
    · obtain rfl | rfl | rfl | rfl : i = 0 ∨ i = 1 ∨ i = 2 ∨ i = 3 := by omega
      · obtain ⟨n, hn⟩ : ∃ n : Nat, n = r * 4294967296 + x0 := ⟨_, rfl⟩
        have ho : bits .or .u64 ((r : Int) * 4294967296) (x0 : Nat) = (n : Nat) := by rw [or32 r x0 (by omega) (by omega), hn]
        have hs : IntKind.u64.wrap ((r : Int) * 4294967296) = (r : Int) * 4294967296 := wraps_u64 _ (by omega) (by omega)
        have hwq : IntKind.u64.wrap ((n : Int) / 10) = ((n / 10 : Nat) : Int) := (wraps_u64 _ (by omega) (by omega)).trans (by omega)
        have HNN := Lib.hid hn
        clear hn b0 b1 b2 b3
        go_wp2
        go_roundg (4 - (0 + 1))
        case measure => omega
        case rel =>
          have hn := HNN.out
          have hi2 := HI.out
          obtain ⟨b0, b1, b2, b3⟩ := HX.out
          go_light
          have h5 := hi2.1 (by trivial)
          exact ⟨0 + 1, n % 10, (n / 10), x1, x2, x3, rfl, by omega, rfl, by rfl, by omega, by rw [heap_set HH.out]; rfl, below_set HB2.out (by omega) _, by omega, by omega, by omega, by omega, by omega, by omega, by omega, by omega, by omega⟩
      · obtain ⟨n, hn⟩ : ∃ n : Nat, n = r * 4294967296 + x1 := ⟨_, rfl⟩
        have ho : bits .or .u64 ((r : Int) * 4294967296) (x1 : Nat) = (n : Nat) := by rw [or32 r x1 (by omega) (by omega), hn]
        have hs : IntKind.u64.wrap ((r : Int) * 4294967296) = (r : Int) * 4294967296 := wraps_u64 _ (by omega) (by omega)
        have hwq : IntKind.u64.wrap ((n : Int) / 10) = ((n / 10 : Nat) : Int) := (wraps_u64 _ (by omega) (by omega)).trans (by omega)
        have HNN := Lib.hid hn
        clear hn b0 b1 b2 b3
        go_wp2
        go_roundg (4 - (1 + 1))
        case measure => omega
        case rel =>
          have hn := HNN.out
          have hi2 := HI.out
          obtain ⟨b0, b1, b2, b3⟩ := HX.out
          go_light
          have h5 := hi2.2.1 (by trivial)
          exact ⟨1 + 1, n % 10, x0, (n / 10), x2, x3, rfl, by omega, rfl, by rfl, by omega, by rw [heap_set HH.out]; rfl, below_set HB2.out (by omega) _, by omega, by omega, by omega, by omega, by omega, by omega, by omega, by omega, by omega⟩
      · obtain ⟨n, hn⟩ : ∃ n : Nat, n = r * 4294967296 + x2 := ⟨_, rfl⟩
        have ho : bits .or .u64 ((r : Int) * 4294967296) (x2 : Nat) = (n : Nat) := by rw [or32 r x2 (by omega) (by omega), hn]
        have hs : IntKind.u64.wrap ((r : Int) * 4294967296) = (r : Int) * 4294967296 := wraps_u64 _ (by omega) (by omega)
        have hwq : IntKind.u64.wrap ((n : Int) / 10) = ((n / 10 : Nat) : Int) := (wraps_u64 _ (by omega) (by omega)).trans (by omega)
        have HNN := Lib.hid hn
        clear hn b0 b1 b2 b3
        go_wp2
        go_roundg (4 - (2 + 1))
        case measure => omega
        case rel =>
          have hn := HNN.out
          have hi2 := HI.out
          obtain ⟨b0, b1, b2, b3⟩ := HX.out
          go_light
          have h5 := hi2.2.2.1 (by trivial)
          exact ⟨2 + 1, n % 10, x0, x1, (n / 10), x3, rfl, by omega, rfl, by rfl, by omega, by rw [heap_set HH.out]; rfl, below_set HB2.out (by omega) _, by omega, by omega, by omega, by omega, by omega, by omega, by omega, by omega, by omega⟩
      · obtain ⟨n, hn⟩ : ∃ n : Nat, n = r * 4294967296 + x3 := ⟨_, rfl⟩
        have ho : bits .or .u64 ((r : Int) * 4294967296) (x3 : Nat) = (n : Nat) := by rw [or32 r x3 (by omega) (by omega), hn]
        have hs : IntKind.u64.wrap ((r : Int) * 4294967296) = (r : Int) * 4294967296 := wraps_u64 _ (by omega) (by omega)
        have hwq : IntKind.u64.wrap ((n : Int) / 10) = ((n / 10 : Nat) : Int) := (wraps_u64 _ (by omega) (by omega)).trans (by omega)
        have HNN := Lib.hid hn
        clear hn b0 b1 b2 b3
        go_wp2
        go_roundg (4 - (3 + 1))
        case measure => omega
        case rel =>
          have hn := HNN.out
          have hi2 := HI.out
          obtain ⟨b0, b1, b2, b3⟩ := HX.out
          go_light
          have h5 := hi2.2.2.2.1 (by trivial)
          exact ⟨3 + 1, n % 10, x0, x1, x2, (n / 10), rfl, by omega, rfl, by rfl, by omega, by rw [heap_set HH.out]; rfl, below_set HB2.out (by omega) _, by omega, by omega, by omega, by omega, by omega, by omega, by omega, by omega, by omega⟩
    · obtain rfl : i = 4 := by omega
      have h5 := HI.out.2.2.2.2 rfl
      have s0 : IntKind.u64.wrap ((x0 : Int) * 4294967296) = (x0 : Int) * 4294967296 := wraps_u64 _ (by omega) (by omega)
      have s2 : IntKind.u64.wrap ((x2 : Int) * 4294967296) = (x2 : Int) * 4294967296 := wraps_u64 _ (by omega) (by omega)
      obtain ⟨y0, hy0⟩ : ∃ y : Nat, y = x0 * 4294967296 + x1 := ⟨_, rfl⟩
      obtain ⟨y2, hy2⟩ : ∃ y : Nat, y = x2 * 4294967296 + x3 := ⟨_, rfl⟩
      have o0 := or32 x0 x1 b0 b1
      have o2 := or32 x2 x3 b2 b3
      rw [← hy0] at o0
      rw [← hy2] at o2
      have HY := Lib.hid (And.intro hy0 hy2)
      clear hy0 hy2
      have hr8 : IntKind.u8.wrap (r : Int) = (r : Int) := wraps_u8 _ (by omega) (by omega)
      have H5 := Lib.hid h5
      have HR := Lib.hid hr
      clear h5 hr b0 b1 b2 b3
      go_wp2
      go_quiet (fail)
      go_wp2
      go_ret3
      have h5 := H5.out
      obtain ⟨b0, b1, b2, b3⟩ := HX.out
      obtain ⟨f1, f2, _⟩ := HF.out
      obtain ⟨hy0, hy2⟩ := HY.out
      go_light
      have g1 : y0 < 18446744073709551616 := by omega
      have g2 : y2 < 18446744073709551616 := by omega
      have g3 : (y0 * 18446744073709551616 + y2) * 10 + r = hi * 18446744073709551616 + lo := by
        rw [hy0, hy2, f1, f2]
        exact tn_fin h5
      exact ⟨y0, y2, r, (by rfl), HR.out, g1, g2, g3, below_dn HB2.out _⟩

end Go.Proofs.YtpkfdbhpmhahaaaGreatDoor

/- A number of 128 bits in decimal: decDigits. -/
namespace Go.Proofs.YtpkfdbhpmhahaaaGreatDoor
open Go Go.RowKit
set_option linter.unusedSimpArgs false
set_option linter.unusedVariables false

/-- It gives a text of at most n bytes; what was there is as it was. -/
def TextPost (n : Nat) (w : World) (e : Ending) (w' : World) : Prop := ∃ t : ByteArray, e = .returned (.string t) ∧ t.size ≤ n ∧ Below w.heap.size w w'

theorem info5 : (Tryz.prog.info? 5).map (fun i => (i.zero, i.size, i.bytes)) = some (some (.int .u8 0), 1, 1) := by kernel_rfl

def DdR (w : World) (m : Nat) (v0 v1 v5 : Value) (wx : World) : Prop :=
  ∃ (hi lo k : Nat) (l : List UInt8), m = hi * 18446744073709551616 + lo ∧ v0 = .int .u64 (hi : Nat) ∧ v1 = .int .u64 (lo : Nat) ∧ hi < 18446744073709551616 ∧ lo < 18446744073709551616 ∧ (hi * 18446744073709551616 + lo) * 8 ^ k < 340282366920938463463374607431768211456 ∧ k ≤ 43 ∧ l.length = k ∧ wx.ownsRow w.heap.size 5 1 v5 k (Lib.byteCells l) ∧ (k = 0 → v5 = .slice none 0 0) ∧ Below w.heap.size w wx

theorem run_conv_nil (W : World) : (convert 23 9 (.slice none 0 0)).run Tryz.prog W = .ok (.string ⟨#[]⟩) W := by kernel_rfl
/-- A row of bytes of one's own as a text. -/
theorem conv_own {W : World} {base : Nat} {v : Value} {acc : List UInt8} (h : W.ownsRow base 5 1 v acc.length (Lib.byteCells acc)) : (convert 23 9 v).run Tryz.prog W = .ok (.string ⟨acc.toArray⟩) W := by
  rcases h.2 with ⟨rfl, h0⟩ | ⟨g, cap, cur, rfl, hb, hg, hn, hc, hs, ht⟩
  · have : acc = [] := List.eq_nil_of_length_eq_zero h0
    subst this
    exact run_conv_nil W
  · refine run_convert_bytes_back (P := Tryz.prog) W 23 9 5 ⟨g, 0, none⟩ cap acc Tryz.underlying23 Tryz.underlying5 Tryz.underlying9 (fun j hj => ?_)
    have e : (⟨g, 0, none⟩ : Addr).add j = ⟨g, j, none⟩ := by simp [Addr.add]; omega
    rw [e]
    exact row_cell hg (by rw [Nat.mul_one] at ht; exact ht) j hj

theorem own_one (w : World) (base : Nat) (c : UInt8) (hb : base ≤ w.heap.size) : (w.alloc (.cells #[.int .u8 (c.toNat : Int)] 5)).ownsRow base 5 1 (.slice (some ⟨w.heap.size, 0, none⟩) 1 1) 1 [.int .u8 (c.toNat : Int)] :=
  ⟨rfl, .inr ⟨w.heap.size, 1, #[.int .u8 (c.toNat : Int)], rfl, hb, heap_alloc_new _ _, Nat.le_refl _, by decide, rfl, rfl⟩⟩
theorem row_some {w : World} {base e k n : Nat} {v : Value} {xs : List Value} (h : w.ownsRow base e k v n xs) (hn : 0 < n) : ∃ g cap cur, v = .slice (some ⟨g, 0, none⟩) n cap ∧ base ≤ g ∧ w.heap[g]? = some (.cells cur e (0, 0)) ∧ cur.toList.take (n * k) = xs := by
  rcases h.2 with ⟨rfl, h0⟩ | ⟨g, cap, cur, rfl, hb, hh, _, _, _, ht⟩
  · omega
  · exact ⟨g, cap, cur, rfl, hb, hh, ht⟩
theorem row_get (w : World) (g : Nat) (cur : Array Value) (k : Nat) (l : List UInt8) (h : w.heap[g]? = some (.cells cur 5 (0, 0))) (ht : cur.toList.take (k * 1) = Lib.byteCells l) (hl : l.length = k) : ∀ j u, (Lib.byteCells l)[j]? = some u → w.cell? ((⟨g, 0, none⟩ : Addr).add j) = some u := fun j u hu => by
  have e : (⟨g, 0, none⟩ : Addr).add j = ⟨g, j, none⟩ := by unfold Addr.add; split <;> simp_all
  rw [e, byteCells_get] at *
  obtain ⟨b, hb, rfl⟩ := Option.map_eq_some_iff.1 hu
  obtain ⟨hj, rfl⟩ := List.getElem?_eq_some_iff.1 hb
  exact row_cell h (by rw [Nat.mul_one, ← hl] at ht; exact ht) j hj
theorem below_grown {B : Nat} {w w1 w2 : World} {row : Option Nat} (h : Below B w w1) (hg : w1.grownBy w2 row) (hr : ∀ k, row = some k → B ≤ k) (hB : B ≤ w1.heap.size) : Below B w w2 :=
  ⟨hg.os.trans h.os, hg.tape.trans h.tape, hg.output.trans h.output, Nat.le_trans h.size hg.size, fun k hk => (hg.block k (by omega) (fun e => by have := hr k e.symm; omega)).trans (h.block k hk)⟩

theorem dd_start {hi lo : Nat} (h1 : hi < 18446744073709551616) (h2 : lo < 18446744073709551616) : (hi * 18446744073709551616 + lo) * 8 ^ 0 < 340282366920938463463374607431768211456 := by
  rw [Nat.pow_zero, Nat.mul_one]
  omega
theorem dd_step {x x' k : Nat} (hx : 0 < x) (h10 : x' * 10 ≤ x) (h : x * 8 ^ k < 340282366920938463463374607431768211456) : x' * 8 ^ (k + 1) < 340282366920938463463374607431768211456 ∧ k + 1 ≤ 43 ∧ x' < x := by
  refine ⟨?_, ?_, by omega⟩
  · have e : x' * 8 ^ (k + 1) = (x' * 8) * 8 ^ k := by rw [Nat.pow_succ]; ac_rfl
    rw [e]
    exact Nat.lt_of_le_of_lt (Nat.mul_le_mul_right _ (by omega)) h
  · rcases Nat.lt_or_ge k 43 with h4 | h4
    · exact h4
    · have h1 : 8 ^ 43 ≤ 8 ^ k := Nat.pow_le_pow_right (by decide) h4
      have h2 : 1 * 8 ^ k ≤ x * 8 ^ k := Nat.mul_le_mul_right _ hx
      have h3 : (340282366920938463463374607431768211456 : Nat) ≤ 8 ^ 43 := by decide
      omega

set_option maxRecDepth 100000 in
set_option maxHeartbeats 4000000 in
theorem decDigits (hi lo : Nat) (hh : hi < 18446744073709551616) (hl : lo < 18446744073709551616) (w : World) : Calls Tryz.prog 47 #[.int .u64 hi, .int .u64 lo] w (TextPost 64 w) := by
  obtain ⟨i0, hi0, hz0, hz1, hz2⟩ := info_parts info5
  have HH := Lib.hid hh
  have HL := Lib.hid hl
  clear hh hl
  by_cases h0 : hi = 0 ∧ lo = 0
  · obtain ⟨rfl, rfl⟩ := h0
    go_enter Tryz.func47, Tryz.ntmps47
    go_wp2
    go_ret
    exact ⟨_, rfl, by decide, Below.refl _ _⟩
  · go_enter Tryz.func47, Tryz.ntmps47
    go_upto_region 1 with fail
    go_cut [12] (fun v wx => v = .bool false ∧ w = wx)
    case first =>
      by_cases h1 : hi = 0
      · have e1 : ((hi : Int) == 0) = true := by simp [h1]
        have e2 : ((lo : Int) == 0) = false := beq_eq_false_iff_ne.2 (by omega)
        clear h0 h1
        go_wp2
        go_meet
        exact ⟨rfl, rfl⟩
      · have e1 : ((hi : Int) == 0) = false := beq_eq_false_iff_ne.2 (by omega)
        clear h0 h1
        go_wp2
        go_meet
        exact ⟨rfl, rfl⟩
    case rest =>
      obtain ⟨rfl, rfl⟩ := hcut
      go_wp2
      go_loopg [0, 1, 5] (hi * 18446744073709551616 + lo) (fun m v0 v1 v5 wx => Aside (DdR w m v0 v1 v5 wx))
      case atStart => exact ⟨hi, lo, 0, [], rfl, rfl, rfl, HH.out, HL.out, dd_start HH.out HL.out, by omega, rfl, World.ownsRow_nil _ _ _ _, fun _ => rfl, Below.refl _ _⟩
      case round =>
        obtain ⟨hi2, lo2, k, l, rfl, rfl, rfl, h2, l2, hv, hk43, hlen, hown, hnil, hbel⟩ := hrel.out
        clear hrel
        have HLEN := Lib.hid hlen
        have HV := Lib.hid hv
        have HOWN := Lib.hid hown
        have HNIL := Lib.hid hnil
        have HBEL := Lib.hid hbel
        have H2 := Lib.hid h2
        have L2 := Lib.hid l2
        clear hlen hv hown hnil hbel h2 l2
        by_cases hz : hi2 = 0 ∧ lo2 = 0
        · obtain ⟨rfl, rfl⟩ := hz
          have hlen := HLEN.out
          subst hlen
          have hcv := conv_own HOWN.out
          clear HLEN
          go_wp2
          go_ret
          exact ⟨_, rfl, by simp [ByteArray.size]; omega, HBEL.out⟩
        · go_upto_region 4 with fail
          go_cut [18] (fun v wx => v = .bool true ∧ wr = wx)
          case first =>
            by_cases h1 : hi2 = 0
            · have e1 : ((hi2 : Int) != 0) = false := by simp [h1]
              have e2 : ((lo2 : Int) != 0) = true := by simp; omega
              clear hz h1
              go_wp2
              go_meet
              exact ⟨rfl, rfl⟩
            · have e1 : ((hi2 : Int) != 0) = true := by simp; omega
              clear hz h1
              go_wp2
              go_meet
              exact ⟨rfl, rfl⟩
          case rest =>
            obtain ⟨rfl, rfl⟩ := hcut
            have hpos : 0 < hi2 * 18446744073709551616 + lo2 := by omega
            have HPOS := Lib.hid hpos
            clear hz hpos
            go_upto_region 7 with (first | (go_at_call 73; refine (decTenth hi2 lo2 H2.out L2.out _).mono ?_; rintro e w1 ⟨hi3, lo3, d, rfl, hd, h3, l3, hq, hb1⟩; have HB1 := Lib.hid hb1; have HQ := Lib.hid hq; have H3 := Lib.hid h3; have L3 := Lib.hid l3; clear hb1 hq h3 l3))
            obtain ⟨s1, s2, s3⟩ := dd_step (x' := hi3 * 18446744073709551616 + lo3) HPOS.out (by have := HQ.out; omega) HV.out
            have hwc : IntKind.u8.wrap (48 + (d : Int)) = ((48 + d : Nat) : Int) := (wraps_u8 _ (by omega) (by omega)).trans (by omega)
            obtain ⟨c, hc⟩ : ∃ c : UInt8, (c.toNat : Int) = ((48 + d : Nat) : Int) := ⟨UInt8.ofNat (48 + d), by simp; omega⟩
            rw [← hc] at hwc
            have hsz1 : wr.heap.size ≤ w1.heap.size := HB1.out.size
            have hszw : w.heap.size ≤ wr.heap.size := HBEL.out.size
            have HBW := Lib.hid (HBEL.out.trans (HB1.out.mono hszw))
            have HOW1 := Lib.hid (ownsRow_of HOWN.out fun q hq => HB1.out.block q (HOWN.out.lt q hq).2)
            have HS1 := Lib.hid s1
            have HC := Lib.hid hc
            clear s1 hc
            by_cases hk0 : k = 0
            · subst hk0
              have h5 := HNIL.out rfl
              subst h5
              go_wp2
              have HO1 := Lib.hid (own_one w1 w.heap.size c (by omega))
              go_roundg (hi3 * 18446744073709551616 + lo3)
              case measure => exact s3
              case rel =>
                have hl0 : l = [] := List.eq_nil_of_length_eq_zero HLEN.out
                exact ⟨hi3, lo3, 1, [c], rfl, rfl, rfl, H3.out, L3.out, HS1.out, by omega, rfl, HO1.out, fun h => absurd h (by decide), HBW.out.alloc (by omega) _⟩
            · obtain ⟨g, cap, cur, rfl, hg1, hg2, hg3⟩ := row_some HOW1.out (by omega)
              have HG2 := Lib.hid (And.intro hg2 hg3)
              clear hg2 hg3
              have HO1 := Lib.hid (own_one w1 w.heap.size c (by omega))
              have hgl : g < w1.heap.size := lt_of_heap HG2.out.1
              have hll := HLEN.out
              go_wp2_with (first | (at_builtin; refine wpList_append_lies _ (by rfl) _ _ _ (by rfl) w.heap.size 5 i0 _ 1 1 Tryz.underlying23 hi0 hz0 hz1 hz2 rfl (by omega) (.slice (some ⟨w1.heap.size, 0, none⟩) 1 1) 1 [.int .u8 (c.toNat : Int)] (by rfl) HO1.out ⟨g, 0, none⟩ k cap (Lib.byteCells l) (by rfl) (by rw [byteCells_length]; omega) (fun j u hu => row_get (w1.alloc (.cells #[.int .u8 (c.toNat : Int)] 5)) g cur k l ((Below.heap_alloc _ _ _ hgl).trans HG2.out.1) HG2.out.2 hll j u hu) (byteCells_oneCell l) (by omega) (by unfold maxLen; omega) (by omega) (by simp; omega) (w1.heap.size + 1) (by simp) ?_; intro gg cap3 w6 hown6 hgrow hat hlt6; have HO6 := Lib.hid hown6; have HG6 := Lib.hid hgrow; clear hown6 hgrow hat hlt6))
              go_roundg (hi3 * 18446744073709551616 + lo3)
              case measure => exact s3
              case rel =>
                refine ⟨hi3, lo3, 1 + k, c :: l, rfl, rfl, rfl, H3.out, L3.out, by rw [Nat.add_comm 1 k]; exact HS1.out, by omega, by simp; omega, HO6.out, fun h => absurd h (by omega), ?_⟩
                exact below_grown (HBW.out.alloc (by omega) _) HG6.out (fun q hq => by simp [Value.ownBlock] at hq; omega) (by simp; omega)

end Go.Proofs.YtpkfdbhpmhahaaaGreatDoor

/- decTimes, DecOf, DecIs, DecBits, decFits: they answer. -/
namespace Go.Proofs.YtpkfdbhpmhahaaaGreatDoor
open Go Go.RowKit
set_option linter.unusedSimpArgs false
set_option linter.unusedVariables false

def U64 (n : Int) : Prop := 0 ≤ n ∧ n < 18446744073709551616
theorem u64_wrap (n : Int) : U64 (IntKind.u64.wrap n) := by
  have : IntKind.u64.wrap n = n % 18446744073709551616 := by simp [IntKind.wrap, IntKind.bits, IntKind.signed]
  rw [this]
  exact ⟨by omega, by omega⟩

def TimesPost (w : World) (e : Ending) (w' : World) : Prop :=
  ∃ (hi lo : Int) (ok : Bool), e = .returned (.tuple #[.int .u64 hi, .int .u64 lo, .bool ok]) ∧ Below w.heap.size w w'

def TmR (w : World) (m : Nat) (v10 v23 : Value) (wx : World) : Prop :=
  ∃ (i : Nat) (r x0 x1 x2 x3 : Int), m = 4 - i ∧ i ≤ 4 ∧ v23 = .int .i64 (i : Nat) ∧ v10 = .int .u64 r ∧ wx.heap[w.heap.size]? = some (.cells #[.int .u64 x0, .int .u64 x1, .int .u64 x2, .int .u64 x3] 132 (0, 0)) ∧ Below w.heap.size w wx

set_option maxRecDepth 100000 in
set_option maxHeartbeats 4000000 in
theorem decTimes (hi lo dg : Int) (w : World) : Calls Tryz.prog 48 #[.int .u64 hi, .int .u64 lo, .int .u64 dg] w (TimesPost w) := by
  go_enter Tryz.func48, Tryz.ntmps48
  go_wp2
  have HW := Lib.hid (heap_alloc_new w (.cells #[.int .u64 (bits .and .u64 lo 4294967295), .int .u64 (lo / 4294967296), .int .u64 (bits .and .u64 hi 4294967295), .int .u64 (hi / 4294967296)] 132))
  have HB := Lib.hid (((Below.refl w.heap.size w).alloc (Nat.le_refl _) (.cells #[.int .u64 (bits .and .u64 lo 4294967295), .int .u64 (lo / 4294967296), .int .u64 (bits .and .u64 hi 4294967295), .int .u64 (hi / 4294967296)] 132)))
  go_loopg [10, 11, 12, 23] 4 (fun m v10 v11 v12 v23 wx => Aside (TmR w m v10 v23 wx))
  case atStart => exact ⟨0, _, _, _, _, _, rfl, by omega, rfl, rfl, HW.out, HB.out⟩
  case round =>
    obtain ⟨i, r, x0, x1, x2, x3, rfl, hile, rfl, rfl, hh2, hb2⟩ := hrel.out
    clear hrel HW HB
    have HH := Lib.hid hh2
    have HB2 := Lib.hid hb2
    clear hb2
    obtain ⟨c0, c1, c2, c3, cf⟩ := cell4 hh2
    clear hh2
    by_cases h4 : i < 4
    · obtain rfl | rfl | rfl | rfl : i = 0 ∨ i = 1 ∨ i = 2 ∨ i = 3 := by omega
      · go_wp2
        go_roundg (4 - (0 + 1))
        case measure => omega
        case rel => exact ⟨0 + 1, _, _, _, _, _, rfl, by omega, rfl, rfl, by rw [heap_set HH.out]; rfl, below_set HB2.out (by omega) _⟩
      · go_wp2
        go_roundg (4 - (1 + 1))
        case measure => omega
        case rel => exact ⟨1 + 1, _, _, _, _, _, rfl, by omega, rfl, rfl, by rw [heap_set HH.out]; rfl, below_set HB2.out (by omega) _⟩
      · go_wp2
        go_roundg (4 - (2 + 1))
        case measure => omega
        case rel => exact ⟨2 + 1, _, _, _, _, _, rfl, by omega, rfl, rfl, by rw [heap_set HH.out]; rfl, below_set HB2.out (by omega) _⟩
      · go_wp2
        go_roundg (4 - (3 + 1))
        case measure => omega
        case rel => exact ⟨3 + 1, _, _, _, _, _, rfl, by omega, rfl, rfl, by rw [heap_set HH.out]; rfl, below_set HB2.out (by omega) _⟩
    · obtain rfl : i = 4 := by omega
      go_wp2
      go_quiet (fail)
      go_wp2
      go_ret3
      exact ⟨_, _, _, rfl, below_dn HB2.out _⟩

theorem two_first (w : World) (A B : Obj) : ((w.alloc A).alloc B).heap[w.heap.size]? = some A := (Below.heap_alloc _ _ _ (by simp)).trans (heap_alloc_new w A)
theorem size80 : (Tryz.prog.info? 80).map (·.size) = some 4 := by kernel_rfl

theorem set4 {w : World} {g : Nat} {a b c d x0 x1 x2 x3 : Value} {T : TypeId} (h : w.heap[g]? = some (.cells #[x0, x1, x2, x3] T (0, 0))) : ((((w.setCell ⟨g, 0, none⟩ a).setCell ⟨g, 1, none⟩ b).setCell ⟨g, 2, none⟩ c).setCell ⟨g, 3, none⟩ d).heap[g]? = some (.cells #[a, b, c, d] T (0, 0)) := by
  rw [heap_set (heap_set (heap_set (heap_set h)))]
  rfl
/-- It answers with a bool of which R holds; what was there is as it was. -/
def AnsB (R : Bool → Prop) (w : World) (e : Ending) (w' : World) : Prop := ∃ r : Bool, e = .returned (.bool r) ∧ R r ∧ Below w.heap.size w w'

/-- A number in decimal, as the reference has it. -/
def dcells (k : Int) (neg : Bool) (t : ByteArray) (e : Int) : Array Value := #[.int .i64 k, .bool neg, .string t, .int .i64 e]
def DecPost (w : World) (e : Ending) (w' : World) : Prop :=
  ∃ (k : Int) (neg : Bool) (t : ByteArray) (x : Int), e = .returned (.agg #[.int .i64 k, .bool neg, .string t, .int .i64 x]) ∧ t.size ≤ 64 ∧ Below w.heap.size w w'

set_option maxRecDepth 100000 in
set_option maxHeartbeats 4000000 in
theorem decOf (hi lo : Nat) (hh : hi < 18446744073709551616) (hl : lo < 18446744073709551616) (w : World) : Calls Tryz.prog 30 #[.int .u64 hi, .int .u64 lo] w (DecPost w) := by
  have ha : bits .and .u64 (hi : Int) 562949953421311 = ((hi % 562949953421312 : Nat) : Int) := (bits_mask .u64 64 (by decide) wraps_u64 49 (by decide) hi (by omega) (by omega)).trans (by omega)
  obtain ⟨h49, hh49⟩ : ∃ h49, h49 = hi % 562949953421312 := ⟨_, rfl⟩
  rw [← hh49] at ha
  have H49 : Hid (h49 < 18446744073709551616) := Lib.hid (by omega)
  have HL := Lib.hid hl
  clear hh hl hh49
  cases hs : (bits .and .u64 ((hi : Int) / 288230376151711744) 31 == 30) with
  | true =>
    go_enter Tryz.func30, Tryz.ntmps30
    go_wp2
    exact bodyPost_ret (results_cell_row Tryz.results30 _ _ w.heap.size 80 _ (0, 0) _ rfl (two_first w _ _) Tryz.underlying80 rfl size80) rfl ⟨_, _, _, _, rfl, by decide, ((Below.refl w.heap.size w).alloc (Nat.le_refl _) _).alloc (by simp) _⟩
  | false =>
    cases hs2 : (bits .and .u64 ((hi : Int) / 288230376151711744) 31 == 31) with
    | true =>
      go_enter Tryz.func30, Tryz.ntmps30
      go_wp2
      exact bodyPost_ret (results_cell_row Tryz.results30 _ _ w.heap.size 80 _ (0, 0) _ rfl (two_first w _ _) Tryz.underlying80 rfl size80) rfl ⟨_, _, _, _, rfl, by decide, ((Below.refl w.heap.size w).alloc (Nat.le_refl _) _).alloc (by simp) _⟩
    | false =>
      cases hs3 : (bits .and .u64 ((hi : Int) / 2305843009213693952) 3 == 3) with
      | true =>
        go_enter Tryz.func30, Tryz.ntmps30
        go_wp2
        exact bodyPost_ret (results_cell_row Tryz.results30 _ _ w.heap.size 80 _ (0, 0) _ rfl (two_first w _ _) Tryz.underlying80 rfl size80) rfl ⟨_, _, _, _, rfl, by decide, ((Below.refl w.heap.size w).alloc (Nat.le_refl _) _).alloc (by simp) _⟩
      | false =>
        go_enter Tryz.func30, Tryz.ntmps30
        go_wp2_with (first | (go_at_call 47; refine (decDigits h49 lo H49.out HL.out _).mono ?_; rintro e w1 ⟨t, rfl, ht, hb1⟩; have HB1 := Lib.hid hb1; have hA := (hb1.block w.heap.size (by simp; omega)).trans (two_first w _ _); have hB := (hb1.block (w.heap.size + 1) (by simp)).trans (heap_alloc2_new w _ _); obtain ⟨a0, a1, a2, a3, af⟩ := cell4 hA; obtain ⟨b0, b1, b2, b3, bf⟩ := cell4 hB; have HA := Lib.hid hA; have HBB := Lib.hid hB; clear hb1 hA hB))
        have hbw : Below w.heap.size w w1 := (((Below.refl w.heap.size w).alloc (Nat.le_refl _) _).alloc (by simp) _).trans (HB1.out.mono (by simp; omega))
        exact bodyPost_ret (results_cell_row Tryz.results30 _ _ w.heap.size 80 _ (0, 0) _ rfl (set4 ((heap_set_ne (by omega)).trans ((heap_set_ne (by omega)).trans HA.out))) Tryz.underlying80 rfl size80) rfl ⟨_, _, _, _, rfl, ht, below_set (below_set (below_set (below_set (below_set (below_set hbw (by omega) _) (by omega) _) (by omega) _) (by omega) _) (by omega) _) (by omega) _⟩

end Go.Proofs.YtpkfdbhpmhahaaaGreatDoor

/- DecIs: it answers. -/
namespace Go.Proofs.YtpkfdbhpmhahaaaGreatDoor
open Go Go.RowKit
set_option linter.unusedSimpArgs false
set_option linter.unusedVariables false

set_option maxRecDepth 100000 in
set_option maxHeartbeats 4000000 in
/-- DecIs answers. -/
theorem decIs (k : Int) (neg : Bool) (t : ByteArray) (x : Int) (ht : t.size ≤ 64) (w : World) : Calls Tryz.prog 31 #[.agg #[.int .i64 k, .bool neg, .string t, .int .i64 x]] w (AnsB (fun _ => True) w) := by
  by_cases hk : k = 0
  · subst hk
    go_enter Tryz.func31, Tryz.ntmps31
    go_upto_region 3 with fail
    have HB := Lib.hid ((Below.refl w.heap.size w).alloc (Nat.le_refl _) (.cells #[.int .i64 0, .bool neg, .string t, .int .i64 x] 80))
    have hA := heap_alloc_new w (.cells #[.int .i64 0, .bool neg, .string t, .int .i64 x] 80)
    generalize hW : w.alloc (.cells #[.int .i64 0, .bool neg, .string t, .int .i64 x] 80) = W
    rw [hW] at HB hA
    clear hW
    obtain ⟨a0, a1, a2, a3, af⟩ := cell4 hA
    clear hA
    go_cut [46] (fun v wx => Aside (∃ b : Bool, v = .bool b) ∧ W = wx)
    case first =>
      by_cases h1 : (t.size : Int) < 1
      · go_wp2
        go_meet
        exact ⟨⟨_, rfl⟩, rfl⟩
      by_cases h34 : (34 : Int) < t.size
      · go_wp2
        go_meet
        exact ⟨⟨_, rfl⟩, rfl⟩
      have hpos : 0 < t.size := by omega
      obtain ⟨c, hc⟩ : ∃ c, t[0]'hpos = c := ⟨_, rfl⟩
      by_cases hx : x < -6176
      · by_cases h2 : (1 : Int) < t.size
        · cases hz : ((c.toNat : Int) == 48) with
          | true =>
            go_wp2
            go_meet
            exact ⟨⟨_, rfl⟩, rfl⟩
          | false =>
            go_wp2
            go_meet
            exact ⟨⟨_, rfl⟩, rfl⟩
        · go_wp2
          go_meet
          exact ⟨⟨_, rfl⟩, rfl⟩
      · by_cases h2 : (1 : Int) < t.size
        · cases hz : ((c.toNat : Int) == 48) with
          | true =>
            go_wp2
            go_meet
            exact ⟨⟨_, rfl⟩, rfl⟩
          | false =>
            go_wp2
            go_meet
            exact ⟨⟨_, rfl⟩, rfl⟩
        · go_wp2
          go_meet
          exact ⟨⟨_, rfl⟩, rfl⟩
    case rest =>
      obtain ⟨hb, rfl⟩ := hcut
      obtain ⟨bb, rfl⟩ := hb.out
      clear hb
      cases bb with
      | true =>
        go_wp2
        go_ret
        exact ⟨_, rfl, trivial, HB.out⟩
      | false =>
        go_wp2
        go_loopg [3] t.size (fun m v wx => Aside (∃ i : Nat, m = t.size - i ∧ i ≤ t.size ∧ v = .int .i64 (i : Nat)) ∧ W = wx)
        case atStart => exact ⟨⟨0, rfl, by omega, rfl⟩, rfl⟩
        case round =>
          obtain ⟨hr, rfl⟩ := hrel
          obtain ⟨i, rfl, hi, rfl⟩ := hr.out
          clear hr
          by_cases hlt : i < t.size
          · obtain ⟨c, hc⟩ : ∃ c, t[i]'hlt = c := ⟨_, rfl⟩
            by_cases hlo : (c.toNat : Int) < 48
            · go_wp2
              go_ret
              exact ⟨_, rfl, trivial, HB.out⟩
            by_cases hhi : (57 : Int) < c.toNat
            · go_wp2
              go_ret
              exact ⟨_, rfl, trivial, HB.out⟩
            go_wp2
            go_roundg (t.size - (i + 1))
            case measure => omega
            case rel => exact ⟨⟨i + 1, rfl, by omega, rfl⟩, rfl⟩
          · go_wp2
            go_ret
            exact ⟨_, rfl, trivial, HB.out⟩
  · have hk2 : (k != 0) = true := by simp [hk]
    cases h1 : (k == 1) with
    | true =>
      go_enter Tryz.func31, Tryz.ntmps31
      go_wp2
      go_ret
      exact ⟨_, rfl, trivial, (Below.refl w.heap.size w).alloc (Nat.le_refl _) _⟩
    | false =>
      go_enter Tryz.func31, Tryz.ntmps31
      go_wp2
      go_ret
      exact ⟨_, rfl, trivial, (Below.refl w.heap.size w).alloc (Nat.le_refl _) _⟩

end Go.Proofs.YtpkfdbhpmhahaaaGreatDoor

/- DecBits, decFits: they answer. -/
namespace Go.Proofs.YtpkfdbhpmhahaaaGreatDoor
open Go Go.RowKit
set_option linter.unusedSimpArgs false
set_option linter.unusedVariables false

def BitsPost (w : World) (e : Ending) (w' : World) : Prop := ∃ hi lo : Int, e = .returned (.tuple #[.int .u64 hi, .int .u64 lo]) ∧ Below w.heap.size w w'

def DbR (w : World) (n : Nat) (W0 : World) (m : Nat) (v5 v6 v7 : Value) (wx : World) : Prop :=
  ∃ (i : Nat) (hi lo : Int), m = n - i ∧ i ≤ n ∧ v5 = .int .u64 hi ∧ v6 = .int .u64 lo ∧ v7 = .int .i64 (i : Nat) ∧ Below W0.heap.size W0 wx

set_option maxRecDepth 100000 in
set_option maxHeartbeats 4000000 in
theorem decBits (k : Int) (neg : Bool) (t : ByteArray) (x : Int) (ht : t.size ≤ 64) (w : World) : Calls Tryz.prog 32 #[.agg #[.int .i64 k, .bool neg, .string t, .int .i64 x]] w (BitsPost w) := by
  go_enter Tryz.func32, Tryz.ntmps32
  go_upto_region 1 with fail
  have HB := Lib.hid ((Below.refl w.heap.size w).alloc (Nat.le_refl _) (.cells #[.int .i64 k, .bool neg, .string t, .int .i64 x] 80))
  have hA := heap_alloc_new w (.cells #[.int .i64 k, .bool neg, .string t, .int .i64 x] 80)
  have hsz : w.heap.size < (w.alloc (.cells #[.int .i64 k, .bool neg, .string t, .int .i64 x] 80)).heap.size := by simp
  generalize hW : w.alloc (.cells #[.int .i64 k, .bool neg, .string t, .int .i64 x] 80) = W
  rw [hW] at HB hA hsz
  clear hW
  have HA := Lib.hid hA
  obtain ⟨a0, a1, a2, a3, af⟩ := cell4 hA
  clear hA
  go_upto_region 2 with fail
  go_upto_if 9 with fail
  go_cut [4] (fun v wx => Aside (∃ s : Int, v = .int .u64 s) ∧ W = wx)
  case first =>
    cases neg with
    | true =>
      go_wp2
      go_meet
      exact ⟨⟨_, rfl⟩, rfl⟩
    | false =>
      go_wp2
      go_meet
      exact ⟨⟨_, rfl⟩, rfl⟩
  case rest =>
    obtain ⟨hb, rfl⟩ := hcut
    obtain ⟨sg, rfl⟩ := hb.out
    clear hb
    by_cases h1 : k = 1
    · subst h1
      go_wp2
      go_ret2
      exact ⟨_, _, rfl, HB.out⟩
    by_cases h2 : k = 2
    · subst h2
      go_wp2
      go_ret2
      exact ⟨_, _, rfl, HB.out⟩
    have e1 : (k == 1) = false := beq_eq_false_iff_ne.2 h1
    have e2 : (k == 2) = false := beq_eq_false_iff_ne.2 h2
    go_wp2
    go_loopg [5, 6, 7] t.size (fun m v5 v6 v7 wx => Aside (DbR w t.size W m v5 v6 v7 wx))
    case atStart => exact ⟨0, _, _, rfl, by omega, rfl, rfl, rfl, Below.refl _ _⟩
    case round =>
      obtain ⟨i, hi, lo, rfl, hile, rfl, rfl, rfl, hbel⟩ := hrel.out
      clear hrel a0 a1 a2 a3 af
      have hA2 := (hbel.block w.heap.size hsz).trans HA.out
      obtain ⟨a0, a1, a2, a3, af⟩ := cell4 hA2
      have HBEL := Lib.hid hbel
      clear hA2 hbel
      by_cases hlt : i < t.size
      · obtain ⟨c, hc⟩ : ∃ c, t[i]'hlt = c := ⟨_, rfl⟩
        go_wp2_with (first | (go_at_call 48; refine (decTimes hi lo _ _).mono ?_; rintro e w1 ⟨hi2, lo2, ok, rfl, hb1⟩; have HB1 := Lib.hid hb1; clear hb1))
        go_roundg (t.size - (i + 1))
        case measure => omega
        case rel => exact ⟨i + 1, _, _, rfl, by omega, rfl, rfl, rfl, HBEL.out.trans (HB1.out.mono HBEL.out.size)⟩
      · go_wp2
        go_ret2
        exact ⟨_, _, rfl, HB.out.trans (HBEL.out.mono (by omega))⟩

set_option maxRecDepth 100000 in
set_option maxHeartbeats 4000000 in
/-- decFits answers. -/
theorem decFits (hi lo : Nat) (hh : hi < 18446744073709551616) (hl : lo < 18446744073709551616) (w : World) : Calls Tryz.prog 19 #[.int .u64 hi, .int .u64 lo] w (AnsB (fun _ => True) w) := by
  have HH := Lib.hid hh
  have HL := Lib.hid hl
  clear hh hl
  go_enter Tryz.func19, Tryz.ntmps19
  go_upto_region 2 with (first | (go_at_call 30; refine (decOf hi lo HH.out HL.out _).mono ?_; rintro e w1 ⟨k, neg, t, x, rfl, ht, hb1⟩; have HB1 := Lib.hid hb1; clear hb1))
  have HB := Lib.hid ((HB1.out).alloc HB1.out.size (.cells #[.int .i64 k, .bool neg, .string t, .int .i64 x] 80))
  have hA := heap_alloc_new w1 (.cells #[.int .i64 k, .bool neg, .string t, .int .i64 x] 80)
  generalize hW : w1.alloc (.cells #[.int .i64 k, .bool neg, .string t, .int .i64 x] 80) = W
  rw [hW] at HB hA
  clear hW
  have HA := Lib.hid hA
  have hsz : w1.heap.size < W.heap.size := lt_of_heap hA
  obtain ⟨a0, a1, a2, a3, af⟩ := cell4 hA
  clear hA
  go_cut [24] (fun v wx => Aside (∃ b : Bool, v = .bool b) ∧ Below W.heap.size W wx)
  case first =>
    go_wp2_with (first | (go_at_call 31; refine (decIs k neg t x ht _).mono ?_; rintro e w2 ⟨r, rfl, _, hb2⟩; have HB2 := Lib.hid hb2; have hA2 := (hb2.block w1.heap.size hsz).trans HA.out; clear a0 a1 a2 a3 af; obtain ⟨a0, a1, a2, a3, af⟩ := cell4 hA2; clear hb2 hA2; cases r))
    all_goals (go_meet; exact ⟨⟨_, rfl⟩, HB2.out⟩)
  case rest =>
    obtain ⟨hb, hbel⟩ := hcut
    obtain ⟨bb, rfl⟩ := hb.out
    clear hb a0 a1 a2 a3 af
    have hA2 := (hbel.block w1.heap.size hsz).trans HA.out
    obtain ⟨a0, a1, a2, a3, af⟩ := cell4 hA2
    have HBEL := Lib.hid (HB.out.trans (hbel.mono HB.out.size))
    clear hA2 hbel
    cases bb with
    | true =>
      go_wp2
      go_ret
      exact ⟨_, rfl, trivial, HBEL.out⟩
    | false =>
      go_wp2_with (first | (go_at_call 32; refine (decBits k neg t x ht _).mono ?_; rintro e w2 ⟨hi2, lo2, rfl, hb2⟩; have HB2 := Lib.hid hb2; clear hb2))
      all_goals (go_ret; exact ⟨_, rfl, trivial, HBEL.out.trans (HB2.out.mono HBEL.out.size)⟩)

end Go.Proofs.YtpkfdbhpmhahaaaGreatDoor

/- extHex: two digits. -/
namespace Go.Proofs.YtpkfdbhpmhahaaaGreatDoor
open Go Go.RowKit
set_option linter.unusedSimpArgs false
set_option linter.unusedVariables false

def hexS : ByteArray := ⟨#[48, 49, 50, 51, 52, 53, 54, 55, 56, 57, 97, 98, 99, 100, 101, 102]⟩
theorem back2 (W : World) (g : Nat) (a b : UInt8) (h : W.heap[g]? = some (.cells #[.int .u8 (a.toNat : Int), .int .u8 (b.toNat : Int)] 5 (0, 0))) : (convert 23 9 (.slice (some ⟨g, 0, none⟩) 2 2)).run Tryz.prog W = .ok (.string ⟨#[a, b]⟩) W :=
  conv_own (acc := [a, b]) (base := 0) ⟨rfl, .inr ⟨g, 2, _, rfl, Nat.zero_le _, h, Nat.le_refl _, by decide, rfl, rfl⟩⟩

set_option maxRecDepth 100000 in
set_option maxHeartbeats 4000000 in
theorem extHex (b : Nat) (hb : b < 256) (w : World) : Calls Tryz.prog 29 #[.int .u8 (b : Nat)] w (TextPost 2 w) := by
  obtain ⟨x, hx⟩ : ∃ x, x = b / 16 := ⟨_, rfl⟩
  obtain ⟨y, hy⟩ : ∃ y, y = b % 16 := ⟨_, rfl⟩
  have e1 : (b : Int) / 16 = (x : Nat) := by omega
  have e2 : bits .and .u8 (b : Int) 15 = (y : Nat) := (u8_and15 (x := (b : Int)) (by omega) (by omega)).trans (by omega)
  have hxN : x < 16 := by omega
  have hyN : y < 16 := by omega
  have hx16 : (x : Int) < 16 := by omega
  have hy16 : (y : Int) < 16 := by omega
  obtain ⟨p, hp⟩ : ∃ p : UInt8, hexS[x]'(by exact hxN) = p := ⟨_, rfl⟩
  obtain ⟨q, hq⟩ : ∃ q : UInt8, hexS[y]'(by exact hyN) = q := ⟨_, rfl⟩
  unfold hexS at hp hq
  have HN := Lib.hid (heap_alloc_new w (.cells #[.int .u8 (p.toNat : Int), .int .u8 (q.toNat : Int)] 5))
  have hcv := back2 (w.alloc (.cells #[.int .u8 (p.toNat : Int), .int .u8 (q.toNat : Int)] 5)).drew w.heap.size p q HN.out
  clear hb hx hy
  go_enter Tryz.func29, Tryz.ntmps29
  go_wp2
  go_region_with (fail)
  all_goals (go_wp2; go_ret; exact ⟨_, rfl, Nat.le_refl 2, below_drew ((Below.refl w.heap.size w).alloc (Nat.le_refl _) _)⟩)

end Go.Proofs.YtpkfdbhpmhahaaaGreatDoor

/- docBare: a value of the same form. -/
namespace Go.Proofs.YtpkfdbhpmhahaaaGreatDoor
open Go Go.RowKit
set_option linter.unusedSimpArgs false
set_option linter.unusedVariables false

/-- The cells of a value. -/
def vcells (K : Int) (t m : ByteArray) (n b h : Int) (bv kv : Value) : Array Value := #[.int .i64 K, .string t, .string m, .int .i64 n, .int .u64 b, .int .u64 h, bv, kv]
theorem size26 : (Tryz.prog.info? 26).map (·.size) = some 8 := by kernel_rfl

def BarePost (bv kv : Value) (w : World) (e : Ending) (w' : World) : Prop :=
  ∃ (K : Int) (t m : ByteArray) (n b h : Int) (bv' kv' : Value), e = .returned (.agg (vcells K t m n b h bv' kv')) ∧ (bv' = bv ∨ bv' = .slice none 0 0) ∧ (kv' = kv ∨ kv' = .slice none 0 0) ∧ Below w.heap.size w w'

theorem bare_end {w : World} {a : Act} {K : Int} {t m : ByteArray} {n b h : Int} {bv kv bv' kv' : Value} {A : Obj} (hp : a.tmps.getD 2 undef = .pointer (some ⟨w.heap.size + 1, 0, none⟩)) (hd : a.defers = []) (h1 : bv' = bv ∨ bv' = .slice none 0 0) (h2 : kv' = kv ∨ kv' = .slice none 0 0) :
    bodyPost Tryz.prog Tryz.f34 (BarePost bv kv w) Exit.ret a ((w.alloc A).alloc (.cells #[.int .i64 K, .string t, .string m, .int .i64 n, .int .u64 b, .int .u64 h, bv', kv'] 26)) :=
  bodyPost_ret (results_cell_row Tryz.results34 _ _ (w.heap.size + 1) 26 (vcells K t m n b h bv' kv') (0, 0) _ hp (heap_alloc2_new w _ _) Tryz.underlying26 rfl size26) hd
    ⟨K, t, m, n, b, h, bv', kv', rfl, h1, h2, ((Below.refl w.heap.size w).alloc (Nat.le_refl _) A).alloc (by simp) _⟩

theorem known_cases {K : Int} (h : Known K) : K = 1 ∨ K = 2 ∨ K = 3 ∨ K = 4 ∨ K = 5 ∨ K = 6 ∨ K = 7 ∨ K = 8 ∨ K = 9 ∨ K = 10 ∨ K = 11 ∨ K = 12 ∨ K = 13 ∨ K = 14 ∨ K = 15 ∨ K = 16 ∨ K = 17 ∨ K = 18 ∨ K = 19 ∨ K = 255 ∨ K = 127 := by
  unfold Known at h
  omega

set_option maxRecDepth 100000 in
set_option maxHeartbeats 4000000 in
theorem docBare (K : Int) (hK : Known K) (t m : ByteArray) (n b h : Int) (ba ka : Option Addr) (bn bc kn kc : Nat) (w : World) : Calls Tryz.prog 34 #[.agg #[.int .i64 K, .string t, .string m, .int .i64 n, .int .u64 b, .int .u64 h, .slice ba bn bc, .slice ka kn kc]] w (BarePost (.slice ba bn bc) (.slice ka kn kc) w) := by
  rcases known_cases hK with rfl | rfl | rfl | rfl | rfl | rfl | rfl | rfl | rfl | rfl | rfl | rfl | rfl | rfl | rfl | rfl | rfl | rfl | rfl | rfl | rfl
  all_goals
    go_enter Tryz.func34, Tryz.ntmps34
    go_wp2
    exact bare_end rfl rfl (by first | exact .inl rfl | exact .inr rfl) (by first | exact .inl rfl | exact .inr rfl)

end Go.Proofs.YtpkfdbhpmhahaaaGreatDoor

/- What a text's contract says. -/
namespace Go.Proofs.YtpkfdbhpmhahaaaGreatDoor
open Go Go.RowKit
set_option linter.unusedSimpArgs false
set_option linter.unusedVariables false

/-- It gives this text; what was there is as it was. -/
def Txt (t : ByteArray) (w : World) (e : Ending) (w' : World) : Prop := e = .returned (.string t) ∧ Below w.heap.size w w'

/-- The operation that stands first, by where its value goes. -/
theorem wpList_at {P : Program} {ops : Array Oper} {rest : List Oper} {a : Act} {Q : Exit → Act → World → Prop} {w : World} (d : Option Tmp) {op : Op} {t : TypeId} {p : String} {af : Array Edge} {g : Option (Nat × Bool)} (h : wpList P ops Q (⟨d, op, t, p, af, g⟩ :: rest) a w) : wpList P ops Q (⟨d, op, t, p, af, g⟩ :: rest) a w := h

/-- An operation is taken first; where its value goes is said. -/
theorem takeH {P : Program} {ops : Array Oper} {Q : Exit → Act → World → Prop} {S : World → Prop} {i : Nat} {oi : Oper} (d : Option Tmp) (v : Value) {fuel : Nat} {listed : Array Bool} {a : Act} {w : World} (hi : ops[i]? = some oi) (hd : oi.dst = d)
    (hs : Region.noSelect ops = true) (hf : Region.free .any ops listed i = true) (hr : (Region.ready .any ops listed).contains i = true)
    (hQ : ∀ c a w, Q (.panic c) (a.put d v) w → Q (.panic c) a w) (hw : Region.wanted oi (yielded ops a.tmps) = true) (hy : ∀ W, S W → (execOp a.eval oi).run P W = .ok (.value v) W) (hS : S w)
    (h : wpAnyH P .any ops Q S fuel (listed.setIfInBounds i true) (a.put d v) w) : wpAnyH P .any ops Q S (fuel + 1) listed a w := by
  subst hd
  exact wpAnyH_take hi hs hf hr hQ (Or.inl ⟨hw, hy⟩) hS h

/-- An operation that is not wanted. -/
theorem takeU {P : Program} {ops : Array Oper} {Q : Exit → Act → World → Prop} {S : World → Prop} {i : Nat} {oi : Oper} (d : Option Tmp) {fuel : Nat} {listed : Array Bool} {a : Act} {w : World} (hi : ops[i]? = some oi) (hd : oi.dst = d)
    (hs : Region.noSelect ops = true) (hf : Region.free .any ops listed i = true) (hr : (Region.ready .any ops listed).contains i = true)
    (hQ : ∀ c a w, Q (.panic c) (a.put d undef) w → Q (.panic c) a w) (hw : Region.wanted oi (yielded ops a.tmps) = false) (hS : S w)
    (h : wpAnyH P .any ops Q S fuel (listed.setIfInBounds i true) (a.put d undef) w) : wpAnyH P .any ops Q S (fuel + 1) listed a w := by
  subst hd
  exact wpAnyH_take hi hs hf hr hQ (Or.inr ⟨hw, rfl⟩) hS h

theorem toList_beq (a b : ByteArray) : (a.toList == b.toList) = decide (a = b) := by
  rw [ByteArray.toList_eq, ByteArray.toList_eq, Bool.eq_iff_iff, beq_iff_eq, decide_eq_true_eq]
  constructor
  · intro h
    cases a; cases b
    simp only [ByteArray.mk.injEq]
    exact Array.toList_inj.1 h
  · rintro rfl; rfl
/-- Two texts are held against each other. -/
theorem x_neqS {ev : Operand → Value} {o : Oper} {x y : Operand} {a b : ByteArray} {W : World} {r : Bool} (ho : o.op = .binOp .neq 9 x y 9) (hx : ev x = .string a) (hy : ev y = .string b) (hr : decide (a ≠ b) = r) : (execOp ev o).run Tryz.prog W = .ok (.value (.bool r)) W := by
  subst hr
  simp [execOp, ho, hx, hy]
  go_simp
  exact toList_beq a b

/-- No byte of it is 0. -/
def plainB (s : ByteArray) (i : Nat) : Bool := (s.data.toList.drop i).all fun c => (c.toNat : Int) != 0
theorem plainB_end (s : ByteArray) (i : Nat) (h : s.size ≤ i) : plainB s i = true := by
  have e : s.data.toList.drop i = [] := List.drop_of_length_le (by simpa using h)
  simp [plainB, e]
theorem plainB_step (s : ByteArray) (i : Nat) (h : i < s.size) : plainB s i = ((((s[i]'h).toNat : Int) != 0) && plainB s (i + 1)) := by
  unfold plainB
  rw [str_drop s i h]
  rfl

set_option maxRecDepth 100000 in
/-- DocPlain tells whether a text has no byte 0. -/
theorem docPlainB (s : ByteArray) (hl : s.size ≤ 9223372036854775807) (w : World) : Calls Tryz.prog 35 #[.string s] w (fun e w' => e = .returned (.bool (plainB s 0)) ∧ w = w') := by
  go_enter Tryz.func35, Tryz.ntmps35
  go_wp2
  go_loopg [3] s.size (fun m v wx => Aside (∃ i : Nat, m = s.size - i ∧ i ≤ s.size ∧ v = .int .i64 (i : Nat) ∧ plainB s 0 = plainB s i) ∧ wx = w)
  case atStart => exact ⟨⟨0, rfl, by omega, rfl, rfl⟩, rfl⟩
  case round =>
    obtain ⟨hr, rfl⟩ := hrel
    obtain ⟨i, rfl, hi, rfl, hp⟩ := hr.out
    clear hr
    have HP := Lib.hid hp
    clear hp
    by_cases hlt : i < s.size
    · have hst := plainB_step s i hlt
      obtain ⟨c, hc⟩ : ∃ c, s[i]'hlt = c := ⟨_, rfl⟩
      rw [hc] at hst
      have HS := Lib.hid hst
      clear hst
      cases hz : ((c.toNat : Int) == 0) with
      | true =>
        have hb : plainB s 0 = false := by
          rw [HP.out, HS.out]
          simp only [bne, hz]
          rfl
        have HBB := Lib.hid hb
        clear hb
        go_wp2
        go_ret
        exact ⟨by rw [HBB.out]; rfl, rfl⟩
      | false =>
        have HN : Hid (plainB s 0 = plainB s (i + 1)) := Lib.hid (by
          rw [HP.out, HS.out]
          simp only [bne, hz]
          rfl)
        clear HP HS
        go_wp2
        go_roundg (s.size - (i + 1))
        case measure => omega
        case rel => exact ⟨⟨i + 1, rfl, by omega, rfl, HN.out⟩, rfl⟩
    · have hb : plainB s 0 = true := by rw [HP.out]; exact plainB_end s i (by omega)
      have HBB := Lib.hid hb
      clear hb
      go_wp2
      go_ret
      exact ⟨by rw [HBB.out]; rfl, rfl⟩

end Go.Proofs.YtpkfdbhpmhahaaaGreatDoor

/- zzFits1: the size of a value's texts and slices. -/
namespace Go.Proofs.YtpkfdbhpmhahaaaGreatDoor
open Go Go.RowKit
set_option linter.unusedSimpArgs false
set_option linter.unusedVariables false

set_option maxRecDepth 100000 in
theorem zzFits1 (K : Int) (t m : ByteArray) (n b h : Int) (ba ka : Option Addr) (bn bc kn kc : Nat) (w : World) : Calls Tryz.prog 4 #[.agg #[.int .i64 K, .string t, .string m, .int .i64 n, .int .u64 b, .int .u64 h, .slice ba bn bc, .slice ka kn kc]] w (AnsB (fun r => r = true → kn ≤ 2147483647) w) := by
  by_cases h1 : (2147483647 : Int) < t.size
  · go_enter Tryz.func4, Tryz.ntmps4
    go_wp2
    go_ret
    exact ⟨_, rfl, fun e => (by cases e), (Below.refl _ _).alloc (Nat.le_refl _) _⟩
  by_cases h2 : (2147483647 : Int) < m.size
  · go_enter Tryz.func4, Tryz.ntmps4
    go_wp2
    go_ret
    exact ⟨_, rfl, fun e => (by cases e), (Below.refl _ _).alloc (Nat.le_refl _) _⟩
  by_cases h3 : (2147483647 : Int) < bn
  · go_enter Tryz.func4, Tryz.ntmps4
    go_wp2
    go_ret
    exact ⟨_, rfl, fun e => (by cases e), (Below.refl _ _).alloc (Nat.le_refl _) _⟩
  by_cases h4 : (2147483647 : Int) < kn
  · go_enter Tryz.func4, Tryz.ntmps4
    go_wp2
    go_ret
    exact ⟨_, rfl, fun e => (by cases e), (Below.refl _ _).alloc (Nat.le_refl _) _⟩
  go_enter Tryz.func4, Tryz.ntmps4
  go_wp2
  go_ret
  exact ⟨_, rfl, fun _ => (by omega), (Below.refl _ _).alloc (Nat.le_refl _) _⟩

end Go.Proofs.YtpkfdbhpmhahaaaGreatDoor

/- extDocument: a document as it is; another value as the one element of a document. -/
namespace Go.Proofs.YtpkfdbhpmhahaaaGreatDoor
open Go Go.RowKit
set_option linter.unusedSimpArgs false
set_option linter.unusedVariables false

def DocPost (K : Int) (cs : Array Value) (w : World) (e : Ending) (w' : World) : Prop :=
  Below w.heap.size w w' ∧ ((K = 3 ∧ e = .returned (.agg cs)) ∨ (K ≠ 3 ∧ ∃ g, w.heap.size ≤ g ∧ w'.heap[g]? = some (.cells (#[.string ⟨#[97]⟩] ++ cs) 33 (0, 0)) ∧ e = .returned (.agg (vcells 3 ⟨#[]⟩ ⟨#[]⟩ 0 0 0 (.slice none 0 0) (.slice (some ⟨g, 0, none⟩) 1 1)))))

theorem second3 (w : World) (A B C : Obj) : (((w.alloc A).alloc B).alloc C).heap[w.heap.size + 1]? = some B := (Below.heap_alloc _ _ _ (by simp)).trans (heap_alloc2_new w A B)
theorem third3 (w : World) (A B C : Obj) : (((w.alloc A).alloc B).alloc C).heap[w.heap.size + 1 + 1]? = some C := by
  have e : ((w.alloc A).alloc B).heap.size = w.heap.size + 1 + 1 := by simp
  rw [← e]
  exact heap_alloc_new _ C

set_option maxRecDepth 100000 in
set_option maxHeartbeats 4000000 in
theorem extDocument (K : Int) (t m : ByteArray) (n b h : Int) (ba ka : Option Addr) (bn bc kn kc : Nat) (w : World) : Calls Tryz.prog 5 #[.agg (vcells K t m n b h (.slice ba bn bc) (.slice ka kn kc))] w (DocPost K (vcells K t m n b h (.slice ba bn bc) (.slice ka kn kc)) w) := by
  unfold vcells
  by_cases h3 : K = 3
  · subst h3
    go_enter Tryz.func5, Tryz.ntmps5
    go_wp2
    exact bodyPost_ret (results_cell_row Tryz.results5 _ _ (w.heap.size + 1) 26 _ (0, 0) _ rfl (heap_alloc2_new w _ _) Tryz.underlying26 rfl size26) rfl ⟨((Below.refl w.heap.size w).alloc (Nat.le_refl _) _).alloc (by simp) _, .inl ⟨rfl, rfl⟩⟩
  · have e3 : (K == 3) = false := beq_eq_false_iff_ne.2 h3
    go_enter Tryz.func5, Tryz.ntmps5
    go_wp2
    exact bodyPost_ret (results_cell_row Tryz.results5 _ _ (w.heap.size + 1) 26 _ (0, 0) _ rfl (second3 w _ _ _) Tryz.underlying26 rfl size26) rfl ⟨(((Below.refl w.heap.size w).alloc (Nat.le_refl _) _).alloc (by simp) _).alloc (by simp; omega) _, .inr ⟨h3, w.heap.size + 1 + 1, by omega, third3 w _ _ _, rfl⟩⟩

end Go.Proofs.YtpkfdbhpmhahaaaGreatDoor

/- The steps of a region, one by one, in a small context. -/
namespace Go.Proofs.YtpkfdbhpmhahaaaGreatDoor
open Go Go.RowKit
set_option linter.unusedSimpArgs false
set_option linter.unusedVariables false

theorem x_move {ev : Operand → Value} {o : Oper} {x : Operand} {v : Value} {W : World} (ho : o.op = .move x) (h : ev x = v) : (execOp ev o).run Tryz.prog W = .ok (.value v) W := by
  subst h
  simp [execOp, ho]
theorem x_assign {ev : Operand → Value} {o : Oper} {x : Operand} {v : Value} {W : World} (ho : o.op = .assign x) (h : ev x = v) : (execOp ev o).run Tryz.prog W = .ok (.value v) W := by
  subst h
  simp [execOp, ho]
theorem x_conv {ev : Operand → Value} {o : Oper} {f t : TypeId} {x : Operand} {a v : Value} {W : World} (ho : o.op = .convert f t x) (hx : ev x = a) (h : (convert f t a).run Tryz.prog W = .ok v W) : (execOp ev o).run Tryz.prog W = .ok (.value v) W := by
  simp [execOp, ho, hx, h]

theorem x_quo10 {ev : Operand → Value} {o : Oper} {x : Operand} {n : Nat} {W : World} (ho : o.op = .binOp .quo 3 x (.const (.int .i64 10)) 3) (hc : ev (.const (.int .i64 10)) = .int .i64 10) (h : ev x = .int .i64 (n : Nat)) (hn : (n : Int) < 1000000000) {q : Nat} (hq : q = n / 10) : (execOp ev o).run Tryz.prog W = .ok (.value (.int .i64 (q : Nat))) W := by
  have e : IntKind.i64.wrap ((n : Int) / 10) = (q : Int) := by rw [IntKind.wrap_i64]; omega
  simp [execOp, ho, h, hc]
  go_simp
theorem x_rem10 {ev : Operand → Value} {o : Oper} {x : Operand} {n : Nat} {W : World} (ho : o.op = .binOp .rem 3 x (.const (.int .i64 10)) 3) (hc : ev (.const (.int .i64 10)) = .int .i64 10) (h : ev x = .int .i64 (n : Nat)) : (execOp ev o).run Tryz.prog W = .ok (.value (.int .i64 ((n : Int) % 10))) W := by
  simp [execOp, ho, h, hc]
  go_simp
  exact Int.tmod_eq_emod_of_nonneg (by omega)
theorem x_add48 {ev : Operand → Value} {o : Oper} {x : Operand} {n : Int} {W : World} (ho : o.op = .binOp .add 3 (.const (.int .i64 48)) x 3) (hc : ev (.const (.int .i64 48)) = .int .i64 48) (h : ev x = .int .i64 n) (h0 : 0 ≤ n) (h1 : n < 10) : (execOp ev o).run Tryz.prog W = .ok (.value (.int .i64 (48 + n))) W := by
  simp [execOp, ho, h, hc]
  go_simp
  rw [IntKind.wrap_i64]
  omega
theorem x_conv35 {ev : Operand → Value} {o : Oper} {x : Operand} {n : Int} {W : World} (ho : o.op = .convert 3 5 x) (h : ev x = .int .i64 n) : (execOp ev o).run Tryz.prog W = .ok (.value (.int .u8 (IntKind.u8.wrap n))) W := by
  simp [execOp, ho, h]
  go_simp
theorem x_build1 {ev : Operand → Value} {o : Oper} {x : Operand} {n : Int} {W : World} (ho : o.op = .buildSlice 23 1 #[(0, x)]) (h : ev x = .int .u8 n) : (execOp ev o).run Tryz.prog W = .ok (.value (.slice (some ⟨W.heap.size, 0, none⟩) 1 1)) (W.alloc (.cells #[.int .u8 n] 5)) := by
  simp [execOp, ho, h]
  go_simp
theorem x_cat {ev : Operand → Value} {o : Oper} {x y : Operand} {a b : ByteArray} {W : World} (ho : o.op = .binOp .add 9 x y 9) (hx : ev x = .string a) (hy : ev y = .string b) (hs : a.size + b.size ≤ 9223372036854775807) : (execOp ev o).run Tryz.prog W = .ok (.value (.string (a ++ b))) W := by
  simp [execOp, ho, hx, hy]
  go_simp
theorem x_call36 {a : Act} {o : Oper} {x : Operand} {n : Int} {W : World} (ho : o.op = .call { callee := .value (.func 36), args := #[x], argTypes := #[3] }) (h : a.eval x = .int .i64 n) : (execOp a.eval o).run Tryz.prog W = .ok (.enter 36 #[.int .i64 n]) W := by
  simp [execOp, ho, h]
  go_simp
  refine Eq.trans ?_ h
  cases x <;> simp [Act.eval]

/-- An operation that gives a value, as one step of a region that draws. -/
theorem step_value {P : Program} {ops : Array Oper} {o : Oper} {a : Act} {w w' : World} {v : Value} {K : Act → World → Prop} {Q : Exit → Act → World → Prop} {E : Prop} (hg : o.guard = none) (d : Option Tmp) (hd : o.dst = d) (hr : (execOp a.eval o).run P w = .ok (.value v) w') (h : K (a.put d v) w') :
    if Region.wanted o (yielded ops a.tmps) = true then Oper.wp P o a w K Q else E := by
  subst hd
  have hw : Region.wanted o (yielded ops a.tmps) = true := by simp [Region.wanted, hg]
  rw [if_pos hw]
  unfold Oper.wp
  rw [hr]
  exact h

/-- A call, as one step of a region that draws. -/
theorem step_call {P : Program} {ops : Array Oper} {o : Oper} {a : Act} {w w' : World} {f : FuncId} {args : Array Value} {K : Act → World → Prop} {Q : Exit → Act → World → Prop} {E : Prop} (hg : o.guard = none) (d : Option Tmp) (hd : o.dst = d) (hr : (execOp a.eval o).run P w = .ok (.enter f args) w') {R : Value → World → Prop} (hc : Calls P f args w' fun e w2 => ∃ v, e = .returned v ∧ R v w2) (h : ∀ v w2, R v w2 → K (a.put d v) w2) :
    if Region.wanted o (yielded ops a.tmps) = true then Oper.wp P o a w K Q else E := by
  subst hd
  have hw : Region.wanted o (yielded ops a.tmps) = true := by simp [Region.wanted, hg]
  rw [if_pos hw]
  unfold Oper.wp
  rw [hr]
  refine hc.mono ?_
  rintro e w2 ⟨v, rfl, hR⟩
  exact h v w2 hR

end Go.Proofs.YtpkfdbhpmhahaaaGreatDoor
