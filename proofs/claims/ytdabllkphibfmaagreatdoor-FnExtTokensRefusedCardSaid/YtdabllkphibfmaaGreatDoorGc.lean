/- What a string of JSON is, byte by byte: plain functions; no program in sight. -/
import Derived.Lib.RuneBytes
import Derived.Lib.UnsafeStr
import Derived.Test.YtdabllkphibfmaaGreatDoorGb
import Derived.Shelf.LaysM
import Derived.Shelf.Bytes.String
import Derived.Shelf.Bytes.BufferK
import Derived.Shelf.Wr.WriteRune
import Derived.Shelf.Unicode.DecodeAny
import Derived.Test.YtdabllkphibfmaaGreatDoorProg
namespace Go.Proofs.YtdabllkphibfmaaGreatDoor
open Go

/-- A hexadecimal digit, of either case. -/
def hexv (c : UInt8) : Option Nat :=
  if 48 ≤ c.toNat ∧ c.toNat ≤ 57 then some (c.toNat - 48) else if 97 ≤ c.toNat ∧ c.toNat ≤ 102 then some (c.toNat - 87) else if 65 ≤ c.toNat ∧ c.toNat ≤ 70 then some (c.toNat - 55) else none

/-- Four hexadecimal digits. -/
def u4 (a b c d : UInt8) : Option Nat :=
  match hexv a, hexv b, hexv c, hexv d with
  | some x, some y, some z, some v => some (x * 4096 + y * 256 + z * 16 + v)
  | _, _, _, _ => none

/-- What stands behind a backslash, but for u. -/
def unesc (e : UInt8) : Option UInt8 :=
  if e = 34 ∨ e = 92 ∨ e = 47 then some e else if e = 98 then some 8 else if e = 102 then some 12 else if e = 110 then some 10 else if e = 114 then some 13 else if e = 116 then some 9 else none

inductive StrStep
  | err | out | done (r : List UInt8) | more (x : List UInt8) (r : List UInt8)

/-- The bytes of a character. -/
def runeB (n : Nat) : List UInt8 := (Lib.encodeRune (n : Int))

def strU (r : List UInt8) : StrStep :=
  match r with
  | a :: b :: c :: d :: r' =>
    match u4 a b c d with
    | none => .out
    | some n =>
      if n < 55296 ∨ 57344 ≤ n then .more (runeB n) r'
      else match r' with
      | 92 :: 117 :: a' :: b' :: c' :: d' :: r'' =>
        match u4 a' b' c' d' with
        | none => .out
        | some m => if n < 56320 ∧ 56320 ≤ m ∧ m < 57344 then .more (runeB ((n - 55296) * 1024 + (m - 56320) + 65536)) r'' else .out
      | _ => .out
  | _ => .err

def strStep : List UInt8 → StrStep
  | [] => .err
  | c :: r =>
    if c = 34 then .done r
    else if c = 92 then
      match r with
      | [] => .err
      | e :: r' => if e = 117 then strU r' else match unesc e with | some x => .more [x] r' | none => .err
    else .more [c] r

inductive StrEnd
  | err | out | ok (s : List UInt8) (r : List UInt8)

def strRun : Nat → List UInt8 → List UInt8 → StrEnd
  | 0, _, _ => .out
  | f + 1, acc, l =>
    match strStep l with
    | .err => .err
    | .out => .out
    | .done r => .ok acc r
    | .more x r => strRun f (acc ++ x) r

end Go.Proofs.YtdabllkphibfmaaGreatDoor

/- getu4, utf16.IsSurrogate, utf16.DecodeRune, by their contracts. -/
namespace Go.Proofs.YtdabllkphibfmaaGreatDoor
open Go Go.RowKit

theorem isSurr (n : Int) (w : World) : Calls Tryz.prog 70 #[.int .i32 n] w fun e w' => e = .returned (.bool (decide (55296 ≤ n) && decide (n < 57344))) ∧ w = w' := by
  go_enter Tryz.func70, Tryz.ntmps70
  go_wp2
  all_goals go_ret
  all_goals first | exact ⟨rfl, rfl⟩ | (refine ⟨?_, rfl⟩; simp [*]; omega) | (refine ⟨?_, rfl⟩; simp [*]; done)

theorem ofInt_i32 (a : Nat) (ha : a < 2147483648) : (BitVec.ofInt 32 (a : Int)).toNat = a := by
  rw [BitVec.ofInt_natCast, BitVec.toNat_ofNat]; exact Nat.mod_eq_of_lt (by omega)

theorem i32_fits (x : Int) (h0 : -2147483648 ≤ x) (h1 : x ≤ 2147483647) : IntKind.i32.wrap x = x := by
  rw [IntKind.wrap_i32]; omega

theorem or_pair (x y : Nat) (hx : x < 1024) (hy : y < 1024) : bits .or .i32 ((x : Int) * 1024) (y : Int) = (x : Int) * 1024 + y := by
  have h1 : (x : Int) * 1024 = ((x * 1024 : Nat) : Int) := by omega
  rw [h1]
  show IntKind.i32.wrap ((BitVec.ofInt 32 ((x * 1024 : Nat) : Int) ||| BitVec.ofInt 32 (y : Int)).toNat : Int) = _
  rw [BitVec.toNat_or, ofInt_i32 _ (by omega), ofInt_i32 _ (by omega)]
  have h2 : x * 1024 ||| y = x * 1024 + y := by
    have := Nat.two_pow_add_eq_or_of_lt (i := 10) (b := y) (by omega) x
    rw [Nat.mul_comm x 1024]
    exact this.symm
  rw [h2]
  rw [i32_fits _ (by omega) (by omega)]
  omega

theorem decodeRuneZ (n m : Int) (h1 : 55296 ≤ n) (h2 : n < 56320) (h3 : 56320 ≤ m) (h4 : m < 57344) (w : World) :
    Calls Tryz.prog 72 #[.int .i32 n, .int .i32 m] w fun e w' => e = .returned (.int .i32 (wrap32 (bits .or .i32 ((n - 55296) * 1024) (m - 56320) + 65536))) ∧ w = w' := by
  go_enter Tryz.func72, Tryz.ntmps72
  go_wp2
  go_ret
  exact ⟨rfl, rfl⟩

theorem pair_num (n m : Nat) (h1 : 55296 ≤ n) (h2 : n < 56320) (h3 : 56320 ≤ m) (h4 : m < 57344) :
    wrap32 (bits .or .i32 (((n : Int) - 55296) * 1024) ((m : Int) - 56320) + 65536) = (((n - 55296) * 1024 + (m - 56320) + 65536 : Nat) : Int) := by
  obtain ⟨x, rfl⟩ := Nat.exists_eq_add_of_le h1
  obtain ⟨y, rfl⟩ := Nat.exists_eq_add_of_le h3
  have h := or_pair x y (by omega) (by omega)
  have e1 : ((55296 + x : Nat) : Int) - 55296 = (x : Int) := by rw [Int.natCast_add]; omega
  have e2 : ((56320 + y : Nat) : Int) - 56320 = (y : Int) := by rw [Int.natCast_add]; omega
  rw [e1, e2, h, Nat.add_sub_cancel_left, Nat.add_sub_cancel_left]
  unfold wrap32
  omega

set_option maxRecDepth 100000 in
theorem decodeRune (n m : Nat) (h1 : 55296 ≤ n) (h2 : n < 56320) (h3 : 56320 ≤ m) (h4 : m < 57344) (w : World) :
    Calls Tryz.prog 72 #[.int .i32 n, .int .i32 m] w fun e w' => e = .returned (.int .i32 (((n - 55296) * 1024 + (m - 56320) + 65536 : Nat) : Int)) ∧ w = w' := by
  have h := decodeRuneZ n m (by omega) (by omega) (by omega) (by omega) w
  rw [pair_num n m h1 h2 h3 h4] at h
  exact h

/-- The digits' number. -/
def hexF (l : List Nat) : Nat := l.foldl (fun a x => a * 16 + x) 0
theorem hexF_snoc (l : List Nat) (x : Nat) : hexF (l ++ [x]) = hexF l * 16 + x := by simp [hexF]

theorem hexv_cases {c : UInt8} {x : Nat} (h : hexv c = some x) : x < 16 ∧ ((48 ≤ c.toNat ∧ c.toNat ≤ 57 ∧ x = c.toNat - 48) ∨ (97 ≤ c.toNat ∧ c.toNat ≤ 102 ∧ x = c.toNat - 87) ∨ (65 ≤ c.toNat ∧ c.toNat ≤ 70 ∧ x = c.toNat - 55)) := by
  unfold hexv at h
  split at h
  · rename_i hc
    have e : c.toNat - 48 = x := by injection h
    refine ⟨?_, .inl ⟨?_, ?_, ?_⟩⟩ <;> omega
  · split at h
    · rename_i hc
      have e : c.toNat - 87 = x := by injection h
      refine ⟨?_, .inr (.inl ⟨?_, ?_, ?_⟩)⟩ <;> omega
    · split at h
      · rename_i hc
        have e : c.toNat - 55 = x := by injection h
        refine ⟨?_, .inr (.inr ⟨?_, ?_, ?_⟩)⟩ <;> omega
      · cases h

theorem foldl_bound (l : List Nat) : ∀ a, (∀ x ∈ l, x < 16) → l.foldl (fun a x => a * 16 + x) a < (a + 1) * 16 ^ l.length := by
  induction l with
  | nil => intro a _; simp
  | cons y l ih =>
    intro a h
    have h1 := ih (a * 16 + y) fun z hz => h z (by simp [hz])
    have h2 := h y (by simp)
    simp only [List.foldl_cons, List.length_cons, Nat.pow_succ]
    refine Nat.lt_of_lt_of_le h1 ?_
    have h3 : (a * 16 + y + 1) * 16 ^ l.length ≤ (a * 16 + 16) * 16 ^ l.length := Nat.mul_le_mul_right _ (by omega)
    refine Nat.le_trans h3 ?_
    rw [show a * 16 + 16 = (a + 1) * 16 by omega, Nat.mul_assoc, Nat.mul_comm 16]
    exact Nat.le_refl _
theorem hexF_bound (l : List Nat) (h : ∀ x ∈ l, x < 16) : hexF l < 16 ^ l.length := by
  have := foldl_bound l 0 h
  simpa [hexF] using this

set_option maxRecDepth 100000 in
set_option maxHeartbeats 2000000 in
theorem getu4_ok (u : Nat) (bs : List UInt8) (hl : bs.length = 4) (xs : List Nat) (hx : bs.map hexv = xs.map some) (w : World) (hu : w.heap[u]? = some (.cells (Lib.byteCells bs).toArray 5 (0, 0))) :
    Calls Tryz.prog 69 #[.slice (some ⟨u, 0, none⟩) 4 4] w fun e w' => e = .returned (.int .i32 (hexF xs : Int)) ∧ w = w' := by
  have hxl : xs.length = 4 := by have := congrArg List.length hx; simp at this; omega
  have hx16 : ∀ x ∈ xs, x < 16 := by
    intro x hm
    have : some x ∈ bs.map hexv := by rw [hx]; exact List.mem_map.2 ⟨x, hm, rfl⟩
    obtain ⟨c, _, hc⟩ := List.mem_map.1 this
    exact (hexv_cases hc).1
  have HU := Lib.hid hu
  have HL := Lib.hid hl
  have HX := Lib.hid hx
  have HXL := Lib.hid hxl
  have HX16 := Lib.hid hx16
  clear hu hl hx hxl hx16
  go_enter Tryz.func69, Tryz.ntmps69
  go_wp2
  go_loopg [3, 12] 4 (fun m r i wx => w = wx ∧ ∃ k : Nat, k ≤ 4 ∧ m = 4 - k ∧ i = .int .i64 k ∧ r = .int .i32 (hexF (xs.take k) : Int))
  case atStart => exact ⟨rfl, 0, by omega, rfl, rfl, rfl⟩
  case round =>
    obtain ⟨rfl, k, hk, rfl, rfl, rfl⟩ := hrel
    by_cases hk4 : k < 4
    · have hkb : k < bs.length := by rw [HL.out]; exact hk4
      have hkx : k < xs.length := by rw [HXL.out]; exact hk4
      have hxk : hexv bs[k] = some xs[k] := by
        have := congrArg (fun l => l[k]?) HX.out
        simpa [hkb, hkx] using this
      obtain ⟨h16, hcs⟩ := hexv_cases hxk
      have hcell := row_cell (bs := bs) HU.out (List.take_of_length_le (by simp [byteCells_length])) k hkb
      have hsn : hexF (xs.take (k + 1)) = hexF (xs.take k) * 16 + xs[k] := by
        rw [← hexF_snoc, List.take_append_getElem]
      have hbd : hexF (xs.take k) < 65536 := by
        have h1 := hexF_bound (xs.take k) fun x hx => HX16.out x (List.mem_of_mem_take hx)
        have h2 : (xs.take k).length ≤ 3 := by simp; omega
        have h3 : 16 ^ (xs.take k).length ≤ 16 ^ 3 := Nat.pow_le_pow_right (by omega) h2
        omega
      obtain ⟨c, hc⟩ : ∃ c : Nat, c = (bs[k]'hkb).toNat := ⟨_, rfl⟩
      rw [← hc] at hcell hcs
      obtain ⟨x, hxe⟩ : ∃ x : Nat, x = xs[k]'hkx := ⟨_, rfl⟩
      rw [← hxe] at hcs hsn h16
      obtain ⟨a, ha⟩ : ∃ a : Nat, a = hexF (xs.take k) := ⟨_, rfl⟩
      rw [← ha] at hsn hbd ⊢
      have HSN := Lib.hid hsn
      have HA := Lib.hid ha
      clear hxk hsn hc hxe ha
      have hk4' : (k : Int) < 4 := by omega
      have ha0 : (0 : Int) ≤ a := by omega
      have ha1 : (a : Int) < 65536 := by omega
      rcases hcs with ⟨c1, c2, c3⟩ | ⟨c1, c2, c3⟩ | ⟨c1, c2, c3⟩
      all_goals
        have d1 : (0 : Int) ≤ c := by omega
        have d2 : (c : Int) ≤ 255 := by omega
        have H3 := Lib.hid c3
        clear c3
      · have e1 : (48 : Int) ≤ c := by omega
        have e2 : (c : Int) ≤ 57 := by omega
        go_wp2
        go_roundg (4 - (k + 1))
        case measure => omega
        case rel =>
          refine ⟨rfl, k + 1, by omega, rfl, by go_num, ?_⟩
          rw [HSN.out, H3.out]
          congr 1
          omega
      · have e1 : (97 : Int) ≤ c := by omega
        have e2 : (c : Int) ≤ 102 := by omega
        have f1 : decide ((c : Int) ≤ 57) = false := by simp; omega
        have f2 : (48 : Int) ≤ c := by omega
        have C := Lib.hid (And.intro c1 c2)
        clear c1 c2
        go_wp2
        go_roundg (4 - (k + 1))
        case measure => omega
        case rel =>
          refine ⟨rfl, k + 1, by omega, rfl, by go_num, ?_⟩
          rw [HSN.out, H3.out]
          have := C.out
          congr 1
          omega
      · have e1 : (65 : Int) ≤ c := by omega
        have e2 : (c : Int) ≤ 70 := by omega
        have f1 : decide ((c : Int) ≤ 57) = false := by simp; omega
        have f2 : (48 : Int) ≤ c := by omega
        have f3 : decide ((97 : Int) ≤ c) = false := by simp; omega
        have C := Lib.hid (And.intro c1 c2)
        clear c1 c2
        go_wp2
        go_roundg (4 - (k + 1))
        case measure => omega
        case rel =>
          refine ⟨rfl, k + 1, by omega, rfl, by go_num, ?_⟩
          rw [HSN.out, H3.out]
          have := C.out
          congr 1
          omega
    · obtain rfl : k = 4 := by omega
      go_wp2
      go_ret
      exact ⟨by rw [List.take_of_length_le (by rw [HXL.out]; exact Nat.le_refl _)]; rfl, rfl⟩

end Go.Proofs.YtdabllkphibfmaaGreatDoor

/- The contracts of bytes.Buffer and unicode/utf8 off the shelf, at this translation (written by lay-plain.mjs, pruned). -/
namespace Go.Proofs
open Go.Shelf
def Tryz.laysM182_ren : Go.Shelf.Ren := ⟨fun | 182 => 43 | n => n, fun | 130 => 109 | 9 => 9 | 4 => 4 | 0 => 0 | 93 => 107 | 37 => 31 | 3 => 3 | 91 => 105 | 5 => 5 | n => n, fun | n => n⟩
theorem Tryz.laysM182 : Go.Proofs.LaysM.n182 Tryz.prog Tryz.laysM182_ren := {
  mixed := by kernel_rfl
  f182 := Tryz.func43.trans (congrArg some (by kernel_rfl))
  t0 := Tryz.underlying0
  a0 := Tryz.isAgg0
  z0 := Tryz.sizeOf0
  v0 := Tryz.zeroValue0
  t3 := Tryz.underlying3
  a3 := Tryz.isAgg3
  z3 := Tryz.sizeOf3
  v3 := Tryz.zeroValue3
  t4 := Tryz.underlying4
  a4 := Tryz.isAgg4
  z4 := Tryz.sizeOf4
  v4 := Tryz.zeroValue4
  t9 := Tryz.underlying9
  a9 := Tryz.isAgg9
  z9 := Tryz.sizeOf9
  v9 := Tryz.zeroValue9
  t37 := Tryz.underlying31
  a37 := Tryz.isAgg31
  z37 := Tryz.sizeOf31
  v37 := Tryz.zeroValue31
  t93 := Tryz.underlying107
  a93 := Tryz.isAgg107
  z93 := Tryz.sizeOf107
  v93 := Tryz.zeroValue107
  t130 := Tryz.underlying109
  a130 := Tryz.isAgg109
  z130 := Tryz.sizeOf109
  v130 := Tryz.zeroValue109
  t5 := Tryz.underlying5
  a5 := Tryz.isAgg5
  z5 := Tryz.sizeOf5
  v5 := Tryz.zeroValue5
  t91 := Tryz.underlying105
  a91 := Tryz.isAgg105
  z91 := Tryz.sizeOf105
  v91 := Tryz.zeroValue105
  i0 := by kernel_rfl
  i3 := by kernel_rfl
  i4 := by kernel_rfl
  i5 := by kernel_rfl
  i9 := by kernel_rfl
  i37 := by kernel_rfl
  i91 := by kernel_rfl
  i93 := by kernel_rfl
  i130 := by kernel_rfl }
open Go.RowKit in
theorem Tryz.Buffer_String (B b : Nat) (l : List UInt8) (w : World) (h : Lib.IsBuffer 107 5 B b (Lib.byteCells l) w) :
    Calls Tryz.prog 43 #[.pointer (some ⟨b, 0, none⟩)] w fun e w' => e = .returned (.string ⟨l.toArray⟩) ∧ ∃ n, w' = w.drewN n := Any.Buffer_String Tryz.laysM182 B b l w h
def Tryz.laysM179_ren : Go.Shelf.Ren := ⟨fun | 179 => 60 | 251 => 81 | 252 => 82 | 181 => 102 | 184 => 103 | 290 => 104 | 324 => 127 | n => n, fun | 130 => 109 | 5 => 5 | 75 => 57 | 0 => 0 | 93 => 107 | 91 => 105 | 3 => 3 | 131 => 110 | 4 => 4 | 37 => 31 | 20 => 20 | 80 => 72 | 9 => 9 | n => n, fun | 14 => 9 | n => n⟩
theorem Tryz.laysM179 : Go.Proofs.LaysM.n179 Tryz.prog Tryz.laysM179_ren := {
  mixed := by kernel_rfl
  f179 := Tryz.func60.trans (congrArg some (by kernel_rfl))
  f181 := Tryz.func102.trans (congrArg some (by kernel_rfl))
  f184 := Tryz.func103.trans (congrArg some (by kernel_rfl))
  f251 := Tryz.func81.trans (congrArg some (by kernel_rfl))
  f252 := Tryz.func82.trans (congrArg some (by kernel_rfl))
  f290 := Tryz.func104.trans (congrArg some (by kernel_rfl))
  f324 := Tryz.func127.trans (congrArg some (by kernel_rfl))
  t0 := Tryz.underlying0
  a0 := Tryz.isAgg0
  z0 := Tryz.sizeOf0
  v0 := Tryz.zeroValue0
  t3 := Tryz.underlying3
  a3 := Tryz.isAgg3
  z3 := Tryz.sizeOf3
  v3 := Tryz.zeroValue3
  t4 := Tryz.underlying4
  a4 := Tryz.isAgg4
  z4 := Tryz.sizeOf4
  v4 := Tryz.zeroValue4
  t5 := Tryz.underlying5
  a5 := Tryz.isAgg5
  z5 := Tryz.sizeOf5
  v5 := Tryz.zeroValue5
  t20 := Tryz.underlying20
  a20 := Tryz.isAgg20
  z20 := Tryz.sizeOf20
  v20 := Tryz.zeroValue20
  t37 := Tryz.underlying31
  a37 := Tryz.isAgg31
  z37 := Tryz.sizeOf31
  v37 := Tryz.zeroValue31
  t75 := Tryz.underlying57
  a75 := Tryz.isAgg57
  z75 := Tryz.sizeOf57
  v75 := Tryz.zeroValue57
  t91 := Tryz.underlying105
  a91 := Tryz.isAgg105
  z91 := Tryz.sizeOf105
  v91 := Tryz.zeroValue105
  t93 := Tryz.underlying107
  a93 := Tryz.isAgg107
  z93 := Tryz.sizeOf107
  v93 := Tryz.zeroValue107
  t130 := Tryz.underlying109
  a130 := Tryz.isAgg109
  z130 := Tryz.sizeOf109
  v130 := Tryz.zeroValue109
  t131 := Tryz.underlying110
  a131 := Tryz.isAgg110
  z131 := Tryz.sizeOf110
  v131 := Tryz.zeroValue110
  g14 := by kernel_rfl
  t9 := Tryz.underlying9
  a9 := Tryz.isAgg9
  z9 := Tryz.sizeOf9
  v9 := Tryz.zeroValue9
  t80 := Tryz.underlying72
  a80 := Tryz.isAgg72
  z80 := Tryz.sizeOf72
  v80 := Tryz.zeroValue72
  i0 := by kernel_rfl
  i3 := by kernel_rfl
  i4 := by kernel_rfl
  i5 := by kernel_rfl
  i9 := by kernel_rfl
  i20 := by kernel_rfl
  i37 := by kernel_rfl
  i75 := by kernel_rfl
  i80 := by kernel_rfl
  i91 := by kernel_rfl
  i93 := by kernel_rfl
  i130 := by kernel_rfl
  i131 := by kernel_rfl
  m14 := by kernel_rfl }
def Tryz.laysM178_ren : Go.Shelf.Ren := ⟨fun | 178 => 61 | 251 => 81 | 252 => 82 | 181 => 102 | 184 => 103 | 290 => 104 | 324 => 127 | n => n, fun | 130 => 109 | 9 => 9 | 3 => 3 | 75 => 57 | 0 => 0 | 93 => 107 | 91 => 105 | 131 => 110 | 4 => 4 | 37 => 31 | 20 => 20 | 80 => 72 | 5 => 5 | n => n, fun | 14 => 9 | n => n⟩
theorem Tryz.laysM178 : Go.Proofs.LaysM.n178 Tryz.prog Tryz.laysM178_ren := {
  mixed := by kernel_rfl
  f178 := Tryz.func61.trans (congrArg some (by kernel_rfl))
  f181 := Tryz.func102.trans (congrArg some (by kernel_rfl))
  f184 := Tryz.func103.trans (congrArg some (by kernel_rfl))
  f251 := Tryz.func81.trans (congrArg some (by kernel_rfl))
  f252 := Tryz.func82.trans (congrArg some (by kernel_rfl))
  f290 := Tryz.func104.trans (congrArg some (by kernel_rfl))
  f324 := Tryz.func127.trans (congrArg some (by kernel_rfl))
  t0 := Tryz.underlying0
  a0 := Tryz.isAgg0
  z0 := Tryz.sizeOf0
  v0 := Tryz.zeroValue0
  t3 := Tryz.underlying3
  a3 := Tryz.isAgg3
  z3 := Tryz.sizeOf3
  v3 := Tryz.zeroValue3
  t4 := Tryz.underlying4
  a4 := Tryz.isAgg4
  z4 := Tryz.sizeOf4
  v4 := Tryz.zeroValue4
  t9 := Tryz.underlying9
  a9 := Tryz.isAgg9
  z9 := Tryz.sizeOf9
  v9 := Tryz.zeroValue9
  t20 := Tryz.underlying20
  a20 := Tryz.isAgg20
  z20 := Tryz.sizeOf20
  v20 := Tryz.zeroValue20
  t37 := Tryz.underlying31
  a37 := Tryz.isAgg31
  z37 := Tryz.sizeOf31
  v37 := Tryz.zeroValue31
  t75 := Tryz.underlying57
  a75 := Tryz.isAgg57
  z75 := Tryz.sizeOf57
  v75 := Tryz.zeroValue57
  t91 := Tryz.underlying105
  a91 := Tryz.isAgg105
  z91 := Tryz.sizeOf105
  v91 := Tryz.zeroValue105
  t93 := Tryz.underlying107
  a93 := Tryz.isAgg107
  z93 := Tryz.sizeOf107
  v93 := Tryz.zeroValue107
  t130 := Tryz.underlying109
  a130 := Tryz.isAgg109
  z130 := Tryz.sizeOf109
  v130 := Tryz.zeroValue109
  t131 := Tryz.underlying110
  a131 := Tryz.isAgg110
  z131 := Tryz.sizeOf110
  v131 := Tryz.zeroValue110
  g14 := by kernel_rfl
  t5 := Tryz.underlying5
  a5 := Tryz.isAgg5
  z5 := Tryz.sizeOf5
  v5 := Tryz.zeroValue5
  t80 := Tryz.underlying72
  a80 := Tryz.isAgg72
  z80 := Tryz.sizeOf72
  v80 := Tryz.zeroValue72
  i0 := by kernel_rfl
  i3 := by kernel_rfl
  i4 := by kernel_rfl
  i5 := by kernel_rfl
  i9 := by kernel_rfl
  i20 := by kernel_rfl
  i37 := by kernel_rfl
  i75 := by kernel_rfl
  i80 := by kernel_rfl
  i91 := by kernel_rfl
  i93 := by kernel_rfl
  i130 := by kernel_rfl
  i131 := by kernel_rfl
  m14 := by kernel_rfl }
open Go.RowKit in
theorem Tryz.Buffer_WriteByte_k (B b : Nat) (bs : List Value) (c : Int) (w : World) (h : Lib.IsBuffer 107 5 B b bs w) (hBw : B ≤ w.heap.size) (h1 : ∀ v ∈ bs, v.oneCell' = true) (hlim : bs.length + 1 ≤ 140737488355328) :
    Calls Tryz.prog 60 #[.pointer (some ⟨b, 0, none⟩), .int .u8 c] w fun e w' => e = .returned .nilIface ∧ Lib.IsBuffer 107 5 B b (bs ++ [.int .u8 c]) w' ∧ Below B w w' ∧ Lib.OthersKept 5 (some b) w w' := Any.Buffer_WriteByte_k Tryz.laysM179 B b bs c w h hBw h1 hlim
open Go.RowKit in
theorem Tryz.Buffer_WriteString_k (B b : Nat) (bs : List Value) (s : ByteArray) (w : World) (h : Lib.IsBuffer 107 5 B b bs w) (hBw : B ≤ w.heap.size) (h1 : ∀ v ∈ bs, v.oneCell' = true) (hlim : bs.length + s.size ≤ 140737488355328) :
    Calls Tryz.prog 61 #[.pointer (some ⟨b, 0, none⟩), .string s] w fun e w' => e = .returned (.tuple #[.int .i64 s.size, .nilIface]) ∧ Lib.IsBuffer 107 5 B b (bs ++ Lib.byteCells s.data.toList) w' ∧ Below B w w' ∧ Lib.OthersKept 5 (some b) w w' := Any.Buffer_WriteString_k Tryz.laysM178 B b bs s w h hBw h1 hlim
def Tryz.laysWr5_ren : Go.Shelf.Ren := ⟨fun | 5 => 71 | 7 => 60 | 8 => 81 | 9 => 82 | 10 => 84 | 11 => 102 | 12 => 103 | 13 => 104 | 14 => 105 | 15 => 127 | n => n, fun | 34 => 109 | 21 => 21 | 3 => 3 | 28 => 57 | 35 => 69 | 4 => 4 | 5 => 5 | 0 => 0 | 26 => 107 | 24 => 105 | 37 => 110 | 22 => 31 | 43 => 70 | 20 => 20 | 31 => 72 | 9 => 9 | n => n, fun | 0 => 9 | n => n⟩
theorem Tryz.laysWr5 : Go.Proofs.LaysWr.n5 Tryz.prog Tryz.laysWr5_ren := {
  mixed := by kernel_rfl
  f5 := Tryz.func71.trans (congrArg some (by kernel_rfl))
  f7 := Tryz.func60.trans (congrArg some (by kernel_rfl))
  f8 := Tryz.func81.trans (congrArg some (by kernel_rfl))
  f9 := Tryz.func82.trans (congrArg some (by kernel_rfl))
  f10 := Tryz.func84.trans (congrArg some (by kernel_rfl))
  f11 := Tryz.func102.trans (congrArg some (by kernel_rfl))
  f12 := Tryz.func103.trans (congrArg some (by kernel_rfl))
  f13 := Tryz.func104.trans (congrArg some (by kernel_rfl))
  f14 := Tryz.func105.trans (congrArg some (by kernel_rfl))
  f15 := Tryz.func127.trans (congrArg some (by kernel_rfl))
  t0 := Tryz.underlying0
  a0 := Tryz.isAgg0
  z0 := Tryz.sizeOf0
  v0 := Tryz.zeroValue0
  i0 := by kernel_rfl
  t3 := Tryz.underlying3
  a3 := Tryz.isAgg3
  z3 := Tryz.sizeOf3
  v3 := Tryz.zeroValue3
  i3 := by kernel_rfl
  t4 := Tryz.underlying4
  a4 := Tryz.isAgg4
  z4 := Tryz.sizeOf4
  v4 := Tryz.zeroValue4
  i4 := by kernel_rfl
  t5 := Tryz.underlying5
  a5 := Tryz.isAgg5
  z5 := Tryz.sizeOf5
  v5 := Tryz.zeroValue5
  i5 := by kernel_rfl
  t9 := Tryz.underlying9
  a9 := Tryz.isAgg9
  z9 := Tryz.sizeOf9
  v9 := Tryz.zeroValue9
  i9 := by kernel_rfl
  t20 := Tryz.underlying20
  a20 := Tryz.isAgg20
  z20 := Tryz.sizeOf20
  v20 := Tryz.zeroValue20
  i20 := by kernel_rfl
  t21 := Tryz.underlying21
  a21 := Tryz.isAgg21
  z21 := Tryz.sizeOf21
  v21 := Tryz.zeroValue21
  i21 := by kernel_rfl
  t22 := Tryz.underlying31
  a22 := Tryz.isAgg31
  z22 := Tryz.sizeOf31
  v22 := Tryz.zeroValue31
  i22 := by kernel_rfl
  t24 := Tryz.underlying105
  a24 := Tryz.isAgg105
  z24 := Tryz.sizeOf105
  v24 := Tryz.zeroValue105
  i24 := by kernel_rfl
  t26 := Tryz.underlying107
  a26 := Tryz.isAgg107
  z26 := Tryz.sizeOf107
  v26 := Tryz.zeroValue107
  i26 := by kernel_rfl
  t28 := Tryz.underlying57
  a28 := Tryz.isAgg57
  z28 := Tryz.sizeOf57
  v28 := Tryz.zeroValue57
  i28 := by kernel_rfl
  t31 := Tryz.underlying72
  a31 := Tryz.isAgg72
  z31 := Tryz.sizeOf72
  v31 := Tryz.zeroValue72
  i31 := by kernel_rfl
  t34 := Tryz.underlying109
  a34 := Tryz.isAgg109
  z34 := Tryz.sizeOf109
  v34 := Tryz.zeroValue109
  i34 := by kernel_rfl
  t35 := Tryz.underlying69
  a35 := Tryz.isAgg69
  z35 := Tryz.sizeOf69
  v35 := Tryz.zeroValue69
  i35 := by kernel_rfl
  t37 := Tryz.underlying110
  a37 := Tryz.isAgg110
  z37 := Tryz.sizeOf110
  v37 := Tryz.zeroValue110
  i37 := by kernel_rfl
  t43 := Tryz.underlying70
  a43 := Tryz.isAgg70
  z43 := Tryz.sizeOf70
  v43 := Tryz.zeroValue70
  i43 := by kernel_rfl
  g0 := by kernel_rfl
  m0 := by kernel_rfl }
open Go.RowKit in
theorem Tryz.Buffer_WriteRune_k (B b : Nat) (bs : List Value) (r : Int) (hr0 : -2147483648 ≤ r) (hr1 : r ≤ 2147483647) (w : World) (h : Lib.IsBuffer 107 5 B b bs w) (hBw : B ≤ w.heap.size) (h1 : ∀ v ∈ bs, v.oneCell' = true) (hlim : bs.length + 4 ≤ 140737488355328) :
    Calls Tryz.prog 71 #[.pointer (some ⟨b, 0, none⟩), .int .i32 r] w fun e w' => e = .returned (.tuple #[.int .i64 (Lib.runeCells r).length, .nilIface]) ∧ Lib.IsBuffer 107 5 B b (bs ++ Lib.runeCells r) w' ∧ Below B w w' ∧ Lib.OthersKept 5 (some b) w w' := Any.Buffer_WriteRune_k Tryz.laysWr5 B b bs r hr0 hr1 w h hBw h1 hlim
def Tryz.lays197_ren : Go.Shelf.Ren := ⟨fun | 197 => 62 | 260 => 83 | n => n, fun | 9 => 9 | 21 => 21 | 3 => 3 | 4 => 4 | 5 => 5 | 105 => 132 | 119 => 196 | 0 => 0 | 46 => 70 | 139 => 199 | 138 => 198 | n => n, fun | 3 => 10 | 4 => 11 | n => n⟩
theorem Tryz.lays197 : Go.Proofs.Lays.n197 Tryz.prog Tryz.lays197_ren := {
  mixed := by kernel_rfl
  f197 := Tryz.func62.trans (congrArg some (by kernel_rfl))
  f260 := Tryz.func83.trans (congrArg some (by kernel_rfl))
  t0 := Tryz.underlying0
  a0 := Tryz.isAgg0
  z0 := Tryz.sizeOf0
  v0 := Tryz.zeroValue0
  t3 := Tryz.underlying3
  a3 := Tryz.isAgg3
  z3 := Tryz.sizeOf3
  v3 := Tryz.zeroValue3
  t4 := Tryz.underlying4
  a4 := Tryz.isAgg4
  z4 := Tryz.sizeOf4
  v4 := Tryz.zeroValue4
  t5 := Tryz.underlying5
  a5 := Tryz.isAgg5
  z5 := Tryz.sizeOf5
  v5 := Tryz.zeroValue5
  t9 := Tryz.underlying9
  a9 := Tryz.isAgg9
  z9 := Tryz.sizeOf9
  v9 := Tryz.zeroValue9
  t21 := Tryz.underlying21
  a21 := Tryz.isAgg21
  z21 := Tryz.sizeOf21
  v21 := Tryz.zeroValue21
  t46 := Tryz.underlying70
  a46 := Tryz.isAgg70
  z46 := Tryz.sizeOf70
  v46 := Tryz.zeroValue70
  t105 := Tryz.underlying132
  a105 := Tryz.isAgg132
  z105 := Tryz.sizeOf132
  v105 := Tryz.zeroValue132
  t119 := Tryz.underlying196
  a119 := Tryz.isAgg196
  z119 := Tryz.sizeOf196
  t138 := Tryz.underlying198
  a138 := Tryz.isAgg198
  z138 := Tryz.sizeOf198
  v138 := Tryz.zeroValue198
  t139 := Tryz.underlying199
  a139 := Tryz.isAgg199
  z139 := Tryz.sizeOf199
  v139 := Tryz.zeroValue199
  g3 := by kernel_rfl
  g4 := by kernel_rfl }
open Go.RowKit Go.Lib in
theorem Tryz.utf8_DecodeRuneInString (s : ByteArray) (w : World) (hT : Lib.Utf8Tabs 10 11 w) :
    Calls Tryz.prog 62 #[.string s] w fun e w' => e = .returned (.tuple #[.int .i32 (Lib.decodeGo s).1, .int .i64 (Lib.decodeGo s).2]) ∧ Below w.heap.size w w' := Any.utf8_DecodeRuneInString Tryz.lays197 s w hT
end Go.Proofs

/- What a string's scan keeps, round for round. -/
namespace Go.Proofs.YtdabllkphibfmaaGreatDoor
open Go Go.RowKit

theorem Fr.then_below {S : Nat → Prop} {a b c : World} (h : Fr S a b) (k : Below a.heap.size b c) : Fr S a c :=
  ⟨k.os.trans h.os, k.tape.trans h.tape, k.output.trans h.output, Nat.le_trans h.size k.size, fun i hi hn => (k.block i hi).trans (h.block i hi hn)⟩

theorem isBuffer_of {B b : Nat} {bs : List Value} {w w' : World} (h : Lib.IsBuffer 107 5 B b bs w) (hf : ∀ k, B ≤ k → k < w.heap.size → w'.heap[k]? = w.heap[k]?) : Lib.IsBuffer 107 5 B b bs w' := by
  have hlt := h.lt
  obtain ⟨h1, v, lr, h2, h3, h4⟩ := h
  refine ⟨h1, v, lr, (hf b h1 hlt).trans h2, ?_, h4⟩
  obtain ⟨h5, h6⟩ := h3
  refine ⟨h5, ?_⟩
  rcases h6 with h6 | ⟨g, cap, cur, hv, hg, hh, r⟩
  · exact .inl h6
  · exact .inr ⟨g, cap, cur, hv, hg, (hf g hg (lt_of_heap hh)).trans hh, r⟩

/-- The state of a string's scan: acc is written, q bytes of the text are behind; what is still to come ends as E. -/
structure Sc.Str (s : Sc) (g : Option Nat) (w : World) (E : StrEnd) (q : Nat) (acc : List UInt8) (wx : World) : Prop where
  q0 : 0 < q
  qn : q ≤ s.T.length
  st : ∃ p, s.St g q p wx
  buf : Lib.IsBuffer 107 5 w.heap.size w.heap.size (Lib.byteCells acc) wx
  len : acc.length ≤ q
  run : ∃ f, strRun f acc (s.T.drop q) = E
  fr : Fr (s.S g) w wx

theorem Sc.own_of_S {s : Sc} {g : Option Nat} {k : Nat} (h : s.S g k) : s.own g k := by
  rcases h with h | h | h
  · exact .inr (.inr (.inl h))
  · exact .inr (.inr (.inr (.inl h)))
  · exact .inr (.inr (.inr (.inr h)))

/-- A read keeps the buffer. -/
theorem buf_read {s : Sc} {g : Option Nat} {q p : Nat} {w wx w' : World} {bs : List Value} (hl : s.St g q p w) (h : Lib.IsBuffer 107 5 w.heap.size w.heap.size bs wx) (hf : Fr (s.S g) wx w') : Lib.IsBuffer 107 5 w.heap.size w.heap.size bs w' :=
  isBuffer_of h fun k hk hk2 => hf.block k hk2 fun hS => by have := hl.lt k (Sc.own_of_S hS); omega

/-- A write keeps the scanner. -/
theorem st_below {s : Sc} {g : Option Nat} {q p q' p' : Nat} {w wx w' : World} (hl : s.St g q p w) (h : s.St g q' p' wx) (hb : Below w.heap.size wx w') : s.St g q' p' w' :=
  h.of_heap fun k hk => hb.block k (hl.lt k hk)

theorem strRun_more {f : Nat} {acc : List UInt8} {l : List UInt8} {E : StrEnd} {x r : List UInt8} (h : strRun f acc l = E) (hE : E ≠ .out) (hs : strStep l = .more x r) : ∃ f, strRun f (acc ++ x) r = E := by
  cases f with
  | zero => simp [strRun] at h; exact absurd h.symm hE
  | succ f => simp only [strRun, hs] at h; exact ⟨f, h⟩
theorem strRun_done {f : Nat} {acc : List UInt8} {l : List UInt8} {E : StrEnd} {r : List UInt8} (h : strRun f acc l = E) (hE : E ≠ .out) (hs : strStep l = .done r) : E = .ok acc r := by
  cases f with
  | zero => simp [strRun] at h; exact absurd h.symm hE
  | succ f => simp only [strRun, hs] at h; exact h.symm
theorem strRun_err {f : Nat} {acc : List UInt8} {l : List UInt8} {E : StrEnd} (h : strRun f acc l = E) (hE : E ≠ .out) (hs : strStep l = .err) : E = .err := by
  cases f with
  | zero => simp [strRun] at h; exact absurd h.symm hE
  | succ f => simp only [strRun, hs] at h; exact h.symm
theorem strRun_out {f : Nat} {acc : List UInt8} {l : List UInt8} {E : StrEnd} (h : strRun f acc l = E) (hE : E ≠ .out) (hs : strStep l = .out) : False := by
  cases f with
  | zero => simp [strRun] at h; exact absurd h.symm hE
  | succ f => simp only [strRun, hs] at h; exact hE h.symm

theorem byteCells_append (a b : List UInt8) : Lib.byteCells a ++ Lib.byteCells b = Lib.byteCells (a ++ b) := by simp [Lib.byteCells]

/-- A round's end: what was read, then what was written. -/
theorem Sc.Str.round {s : Sc} {g : Option Nat} {q0 p0 : Nat} {w : World} (hL : s.St g q0 p0 w) {E : StrEnd} {q q' p' : Nat} {acc x : List UInt8} {wr w1 w2 : World} (hz : 0 < q) (hfr : Fr (s.S g) w wr) (hlen : acc.length ≤ q)
    (h4 : s.St g q' p' w1) (h5 : Fr (s.S g) wr w1) (hb2 : Lib.IsBuffer 107 5 w.heap.size w.heap.size (Lib.byteCells acc ++ Lib.byteCells x) w2) (hbel : Below w.heap.size w1 w2) (hq : q + x.length ≤ q') (hq' : q' ≤ s.T.length)
    (hrun : ∃ f, strRun f (acc ++ x) (s.T.drop q') = E) : s.Str g w E q' (acc ++ x) w2 :=
  ⟨by omega, hq', ⟨p', st_below hL h4 hbel⟩, by rw [← byteCells_append]; exact hb2, by simp; omega, hrun, (hfr.trans h5).then_below hbel⟩

/-- How a string's scan ends. -/
def Sc.StrPost (s : Sc) (g : Option Nat) (w : World) (p0 : Nat) : StrEnd → Ending → World → Prop
  | .ok str r, e, w' => ∃ b, e = .returned (.tuple #[.pointer (some ⟨b, 0, none⟩), .nilIface]) ∧ w.heap.size ≤ b ∧ w'.heap[b]? = some (.cells #[.int .u8 9, .iface 9 (.string ⟨str.toArray⟩), .int .i64 p0] 97 (0, 0)) ∧
      (∃ q p, s.T.drop q = r ∧ q ≤ s.T.length ∧ 0 < q ∧ s.St g q p w') ∧ Fr (s.S g) w w'
  | .err, e, w' => (∃ a, e = .returned (.tuple #[.pointer none, .iface 150 (.pointer (some a))])) ∧ Fr (s.S g) w w'
  | .out, _, _ => True

end Go.Proofs.YtdabllkphibfmaaGreatDoor
