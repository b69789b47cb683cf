/- getu4, utf16.IsSurrogate, utf16.DecodeRune, by their contracts. -/
import Derived.Test.YtdabllkphibfmaaGreatDoorReadN
import Derived.Test.YtdabllkphibfmaaGreatDoorStrP
namespace Go.Proofs.YtdabllkphibfmaaGreatDoor
open Go Go.RowKit

theorem isSurr (n : Int) (w : World) : Calls Tryz.prog 70 #[.int .i32 n] w fun e w' => e = .returned (.bool (decide (55296 ≤ n) && decide (n < 57344))) ∧ w = w' := by
  go_enter Tryz.func70, Tryz.ntmps70
  go_wp2
  all_goals go_ret
  all_goals first | exact ⟨rfl, rfl⟩ | (refine ⟨?_, rfl⟩; simp [*]; omega) | (refine ⟨?_, rfl⟩; simp [*]; done)

theorem ofInt_i32 (a : Nat) (ha : a < 2147483648) : (BitVec.ofInt 32 (a : Int)).toNat = a := by
  rw [BitVec.ofInt_natCast, BitVec.toNat_ofNat]; exact Nat.mod_eq_of_lt (by omega)

theorem i32_fits (x : Int) (h0 : -2147483648 ≤ x) (h1 : x ≤ 2147483647) : IntKind.i32.wrap x = x := by
  rw [IntKind.wrap_i32]; omega

theorem or_pair (x y : Nat) (hx : x < 1024) (hy : y < 1024) : bits .or .i32 ((x : Int) * 1024) (y : Int) = (x : Int) * 1024 + y := by
  have h1 : (x : Int) * 1024 = ((x * 1024 : Nat) : Int) := by omega
  rw [h1]
  show IntKind.i32.wrap ((BitVec.ofInt 32 ((x * 1024 : Nat) : Int) ||| BitVec.ofInt 32 (y : Int)).toNat : Int) = _
  rw [BitVec.toNat_or, ofInt_i32 _ (by omega), ofInt_i32 _ (by omega)]
  have h2 : x * 1024 ||| y = x * 1024 + y := by
    have := Nat.two_pow_add_eq_or_of_lt (i := 10) (b := y) (by omega) x
    rw [Nat.mul_comm x 1024]
    exact this.symm
  rw [h2]
  rw [i32_fits _ (by omega) (by omega)]
  omega

theorem decodeRuneZ (n m : Int) (h1 : 55296 ≤ n) (h2 : n < 56320) (h3 : 56320 ≤ m) (h4 : m < 57344) (w : World) :
    Calls Tryz.prog 72 #[.int .i32 n, .int .i32 m] w fun e w' => e = .returned (.int .i32 (wrap32 (bits .or .i32 ((n - 55296) * 1024) (m - 56320) + 65536))) ∧ w = w' := by
  go_enter Tryz.func72, Tryz.ntmps72
  go_wp2
  go_ret
  exact ⟨rfl, rfl⟩

theorem pair_num (n m : Nat) (h1 : 55296 ≤ n) (h2 : n < 56320) (h3 : 56320 ≤ m) (h4 : m < 57344) :
    wrap32 (bits .or .i32 (((n : Int) - 55296) * 1024) ((m : Int) - 56320) + 65536) = (((n - 55296) * 1024 + (m - 56320) + 65536 : Nat) : Int) := by
  obtain ⟨x, rfl⟩ := Nat.exists_eq_add_of_le h1
  obtain ⟨y, rfl⟩ := Nat.exists_eq_add_of_le h3
  have h := or_pair x y (by omega) (by omega)
  have e1 : ((55296 + x : Nat) : Int) - 55296 = (x : Int) := by rw [Int.natCast_add]; omega
  have e2 : ((56320 + y : Nat) : Int) - 56320 = (y : Int) := by rw [Int.natCast_add]; omega
  rw [e1, e2, h, Nat.add_sub_cancel_left, Nat.add_sub_cancel_left]
  unfold wrap32
  omega

set_option maxRecDepth 100000 in
theorem decodeRune (n m : Nat) (h1 : 55296 ≤ n) (h2 : n < 56320) (h3 : 56320 ≤ m) (h4 : m < 57344) (w : World) :
    Calls Tryz.prog 72 #[.int .i32 n, .int .i32 m] w fun e w' => e = .returned (.int .i32 (((n - 55296) * 1024 + (m - 56320) + 65536 : Nat) : Int)) ∧ w = w' := by
  have h := decodeRuneZ n m (by omega) (by omega) (by omega) (by omega) w
  rw [pair_num n m h1 h2 h3 h4] at h
  exact h

/-- The digits' number. -/
def hexF (l : List Nat) : Nat := l.foldl (fun a x => a * 16 + x) 0
theorem hexF_snoc (l : List Nat) (x : Nat) : hexF (l ++ [x]) = hexF l * 16 + x := by simp [hexF]

theorem hexv_cases {c : UInt8} {x : Nat} (h : hexv c = some x) : x < 16 ∧ ((48 ≤ c.toNat ∧ c.toNat ≤ 57 ∧ x = c.toNat - 48) ∨ (97 ≤ c.toNat ∧ c.toNat ≤ 102 ∧ x = c.toNat - 87) ∨ (65 ≤ c.toNat ∧ c.toNat ≤ 70 ∧ x = c.toNat - 55)) := by
  unfold hexv at h
  split at h
  · rename_i hc
    have e : c.toNat - 48 = x := by injection h
    refine ⟨?_, .inl ⟨?_, ?_, ?_⟩⟩ <;> omega
  · split at h
    · rename_i hc
      have e : c.toNat - 87 = x := by injection h
      refine ⟨?_, .inr (.inl ⟨?_, ?_, ?_⟩)⟩ <;> omega
    · split at h
      · rename_i hc
        have e : c.toNat - 55 = x := by injection h
        refine ⟨?_, .inr (.inr ⟨?_, ?_, ?_⟩)⟩ <;> omega
      · cases h

theorem foldl_bound (l : List Nat) : ∀ a, (∀ x ∈ l, x < 16) → l.foldl (fun a x => a * 16 + x) a < (a + 1) * 16 ^ l.length := by
  induction l with
  | nil => intro a _; simp
  | cons y l ih =>
    intro a h
    have h1 := ih (a * 16 + y) fun z hz => h z (by simp [hz])
    have h2 := h y (by simp)
    simp only [List.foldl_cons, List.length_cons, Nat.pow_succ]
    refine Nat.lt_of_lt_of_le h1 ?_
    have h3 : (a * 16 + y + 1) * 16 ^ l.length ≤ (a * 16 + 16) * 16 ^ l.length := Nat.mul_le_mul_right _ (by omega)
    refine Nat.le_trans h3 ?_
    rw [show a * 16 + 16 = (a + 1) * 16 by omega, Nat.mul_assoc, Nat.mul_comm 16]
    exact Nat.le_refl _
theorem hexF_bound (l : List Nat) (h : ∀ x ∈ l, x < 16) : hexF l < 16 ^ l.length := by
  have := foldl_bound l 0 h
  simpa [hexF] using this

set_option maxRecDepth 100000 in
set_option maxHeartbeats 2000000 in
theorem getu4_ok (u : Nat) (bs : List UInt8) (hl : bs.length = 4) (xs : List Nat) (hx : bs.map hexv = xs.map some) (w : World) (hu : w.heap[u]? = some (.cells (Lib.byteCells bs).toArray 5 (0, 0))) :
    Calls Tryz.prog 69 #[.slice (some ⟨u, 0, none⟩) 4 4] w fun e w' => e = .returned (.int .i32 (hexF xs : Int)) ∧ w = w' := by
  have hxl : xs.length = 4 := by have := congrArg List.length hx; simp at this; omega
  have hx16 : ∀ x ∈ xs, x < 16 := by
    intro x hm
    have : some x ∈ bs.map hexv := by rw [hx]; exact List.mem_map.2 ⟨x, hm, rfl⟩
    obtain ⟨c, _, hc⟩ := List.mem_map.1 this
    exact (hexv_cases hc).1
  have HU := Lib.hid hu
  have HL := Lib.hid hl
  have HX := Lib.hid hx
  have HXL := Lib.hid hxl
  have HX16 := Lib.hid hx16
  clear hu hl hx hxl hx16
  go_enter Tryz.func69, Tryz.ntmps69
  go_wp2
  go_loopg [3, 12] 4 (fun m r i wx => w = wx ∧ ∃ k : Nat, k ≤ 4 ∧ m = 4 - k ∧ i = .int .i64 k ∧ r = .int .i32 (hexF (xs.take k) : Int))
  case atStart => exact ⟨rfl, 0, by omega, rfl, rfl, rfl⟩
  case round =>
    obtain ⟨rfl, k, hk, rfl, rfl, rfl⟩ := hrel
    by_cases hk4 : k < 4
    · have hkb : k < bs.length := by rw [HL.out]; exact hk4
      have hkx : k < xs.length := by rw [HXL.out]; exact hk4
      have hxk : hexv bs[k] = some xs[k] := by
        have := congrArg (fun l => l[k]?) HX.out
        simpa [hkb, hkx] using this
      obtain ⟨h16, hcs⟩ := hexv_cases hxk
      have hcell := row_cell (bs := bs) HU.out (List.take_of_length_le (by simp [byteCells_length])) k hkb
      have hsn : hexF (xs.take (k + 1)) = hexF (xs.take k) * 16 + xs[k] := by
        rw [← hexF_snoc, List.take_append_getElem]
      have hbd : hexF (xs.take k) < 65536 := by
        have h1 := hexF_bound (xs.take k) fun x hx => HX16.out x (List.mem_of_mem_take hx)
        have h2 : (xs.take k).length ≤ 3 := by simp; omega
        have h3 : 16 ^ (xs.take k).length ≤ 16 ^ 3 := Nat.pow_le_pow_right (by omega) h2
        omega
      obtain ⟨c, hc⟩ : ∃ c : Nat, c = (bs[k]'hkb).toNat := ⟨_, rfl⟩
      rw [← hc] at hcell hcs
      obtain ⟨x, hxe⟩ : ∃ x : Nat, x = xs[k]'hkx := ⟨_, rfl⟩
      rw [← hxe] at hcs hsn h16
      obtain ⟨a, ha⟩ : ∃ a : Nat, a = hexF (xs.take k) := ⟨_, rfl⟩
      rw [← ha] at hsn hbd ⊢
      have HSN := Lib.hid hsn
      have HA := Lib.hid ha
      clear hxk hsn hc hxe ha
      have hk4' : (k : Int) < 4 := by omega
      have ha0 : (0 : Int) ≤ a := by omega
      have ha1 : (a : Int) < 65536 := by omega
      rcases hcs with ⟨c1, c2, c3⟩ | ⟨c1, c2, c3⟩ | ⟨c1, c2, c3⟩
      all_goals
        have d1 : (0 : Int) ≤ c := by omega
        have d2 : (c : Int) ≤ 255 := by omega
        have H3 := Lib.hid c3
        clear c3
      · have e1 : (48 : Int) ≤ c := by omega
        have e2 : (c : Int) ≤ 57 := by omega
        go_wp2
        go_roundg (4 - (k + 1))
        case measure => omega
        case rel =>
          refine ⟨rfl, k + 1, by omega, rfl, by go_num, ?_⟩
          rw [HSN.out, H3.out]
          congr 1
          omega
      · have e1 : (97 : Int) ≤ c := by omega
        have e2 : (c : Int) ≤ 102 := by omega
        have f1 : decide ((c : Int) ≤ 57) = false := by simp; omega
        have f2 : (48 : Int) ≤ c := by omega
        have C := Lib.hid (And.intro c1 c2)
        clear c1 c2
        go_wp2
        go_roundg (4 - (k + 1))
        case measure => omega
        case rel =>
          refine ⟨rfl, k + 1, by omega, rfl, by go_num, ?_⟩
          rw [HSN.out, H3.out]
          have := C.out
          congr 1
          omega
      · have e1 : (65 : Int) ≤ c := by omega
        have e2 : (c : Int) ≤ 70 := by omega
        have f1 : decide ((c : Int) ≤ 57) = false := by simp; omega
        have f2 : (48 : Int) ≤ c := by omega
        have f3 : decide ((97 : Int) ≤ c) = false := by simp; omega
        have C := Lib.hid (And.intro c1 c2)
        clear c1 c2
        go_wp2
        go_roundg (4 - (k + 1))
        case measure => omega
        case rel =>
          refine ⟨rfl, k + 1, by omega, rfl, by go_num, ?_⟩
          rw [HSN.out, H3.out]
          have := C.out
          congr 1
          omega
    · obtain rfl : k = 4 := by omega
      go_wp2
      go_ret
      exact ⟨by rw [List.take_of_length_le (by rw [HXL.out]; exact Nat.le_refl _)]; rfl, rfl⟩

end Go.Proofs.YtdabllkphibfmaaGreatDoor
