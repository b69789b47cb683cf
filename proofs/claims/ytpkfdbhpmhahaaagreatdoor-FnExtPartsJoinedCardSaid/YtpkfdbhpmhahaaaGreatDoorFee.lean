/- Floats as decimals: the digits into the buffer. -/
import Derived.Test.YtpkfdbhpmhahaaaGreatDoorFed
import Derived.Lib.ItoaLen
namespace Go.Proofs.YtpkfdbhpmhahaaaGreatDoor
open Go Go.RowKit Go.Lib Go.Sort
set_option linter.unusedSimpArgs false
set_option linter.unusedVariables false

def digL (u : Nat) : List UInt8 := if u = 0 then [] else Lib.decDigits u
theorem digL_length (u : Nat) : (digL u).length = if u = 0 then 0 else nDigits u := by
  unfold digL
  split
  · rfl
  · rw [decDigits_length]
theorem digL_le (u : Nat) (h : u < 18446744073709551616) : (digL u).length ≤ 20 := by
  rw [digL_length]
  split
  · omega
  · exact nDigits_le20 u h
/-- How many stand before the noughts at the end. -/
def trimN (L : List UInt8) : Nat → Nat
  | 0 => 0
  | k + 1 => if L[k]? = some 48 then trimN L k else k + 1
theorem trimN_le (L : List UInt8) : ∀ k, trimN L k ≤ k
  | 0 => Nat.le_refl _
  | k + 1 => by
    unfold trimN
    have := trimN_le L k
    split <;> omega
def trimL (L : List UInt8) : List UInt8 := L.take (trimN L L.length)
theorem trimL_length (L : List UInt8) : (trimL L).length = trimN L L.length := by
  unfold trimL
  have := trimN_le L L.length
  simp; omega

/-- What setDigits leaves. -/
def SetPost (gb : Nat) (L : List UInt8) (p : Int) (w : World) (e : Ending) (w' : World) : Prop :=
  e = .returned (.tuple #[.int .i64 ((L.length : Int) + p), .int .i64 ((trimL L).length : Nat)]) ∧ (∃ ob, w'.heap[gb]? = some ob ∧ BufIs ob (trimL L)) ∧ w.grownBy w' (some gb)

theorem put_heap {w : World} {gb : Nat} {cs : Array Value} {T : TypeId} {d : Array UInt8} (enc : UInt8 → Value) (h : w.heap[gb]? = some (.cells cs T (0, 0))) : (putRow enc w gb 0 d).heap[gb]? = some (.cells (putCells enc 0 d cs) T (0, 0)) := by
  simp [putRow, mapBlock, Array.getElem?_modify, h, onCells]
theorem put_other {w : World} {gb k : Nat} {d : Array UInt8} (enc : UInt8 → Value) (h : k ≠ gb) : (putRow enc w gb 0 d).heap[k]? = w.heap[k]? := by
  simp [putRow, mapBlock, Array.getElem?_modify, Ne.symm h]
theorem put_grown {w : World} {gb n : Nat} {d : Array UInt8} (enc : UInt8 → Value) : w.grownBy ((putRow enc w gb 0 d).drewN n) (some gb) :=
  ⟨rfl, rfl, rfl, by show w.heap.size ≤ (putRow enc w gb 0 d).heap.size; rw [size_putRow]; exact Nat.le_refl _, fun k hk hne => put_other enc (fun e => hne (by rw [e]))⟩

set_option maxRecDepth 100000 in
set_option maxHeartbeats 4000000 in
theorem setDig (u : Nat) (hu : u < 18446744073709551616) (p : Int) (hp : -400 ≤ p ∧ p ≤ 400) (gb : Nat) (cs : Array Value) (w : World) (hb : w.heap[gb]? = some (.cells cs 198 (0, 0))) (hcs : cs.size = 32) (hc0 : ∀ j, j < 32 → cs[j]? = some (.int .u8 0)) :
    Calls Tryz.prog 140 #[.slice (some ⟨gb, 0, none⟩) 32 32, .int .u64 u, .int .i64 p, .int .i64 ((digL u).length : Nat)] w (SetPost gb (digL u) p w) := by
  obtain ⟨nd, hnd⟩ : ∃ x, x = (digL u).length := ⟨_, rfl⟩
  have hn20 : nd ≤ 20 := by rw [hnd]; exact digL_le u hu
  have hH0 : Holds (fun (b : UInt8) => Value.int .u8 (b.toNat : Int)) w gb 0 (Array.replicate nd (0 : UInt8)) := fun j hj => by
    have hj' : j < nd := by simpa using hj
    refine ⟨?_, by simp [World.frozen?, hb]⟩
    rw [getElem!_pos _ j hj]
    simp [World.cell?, hb, hc0 j (by omega)]
  have hlt : u < 10 ^ nd := by
    rw [hnd, digL_length]
    split
    · rename_i h; rw [h]; decide
    · exact lt_pow_nDigits u
  have hfmt := Tryz.internal_strconv_formatBase10 gb 0 32 u (Array.replicate nd 0) w hH0 (by rw [Array.size_replicate]; exact hlt) hu (by rw [Array.size_replicate]; omega)
  rw [Array.size_replicate] at hfmt
  have HH0 := Lib.hid hH0
  have HB := Lib.hid (And.intro hb hcs)
  have HND := Lib.hid hnd
  have hsl := sl_0N gb nd (by omega)
  rw [← hnd]
  clear hH0 hb hcs hc0 hnd hlt
  go_enter Tryz.func140, Tryz.ntmps140
  go_upto_region 3 with (first | (go_at_call 111; refine hfmt.mono ?_; rintro e w' ⟨rfl, n, v', dk, rfl, hF⟩; have HF := Lib.hid hF; clear hF hfmt))
  have hcell : ∀ j (hj : j < nd), ((putRow (fun (b : UInt8) => Value.int .u8 (b.toNat : Int)) w gb 0 dk).drewN n).cell? ⟨gb, j, none⟩ = some (.int .u8 (((digL u)[j]'(by have := HND.out; omega)).toNat : Int)) := fun j hj => by
    rw [World.cell?_drewN]
    have hsz : dk.size = nd := HF.out.size
    have h1 := cell?_putRow (fun (b : UInt8) => Value.int .u8 (b.toNat : Int)) w gb 0 _ dk HH0.out (by rw [hsz, Array.size_replicate]) j (by omega)
    rw [Nat.zero_add] at h1
    rw [h1]
    have hd := HND.out
    have hu0 : ¬ u = 0 := fun e => by rw [digL_length, if_pos e] at hd; omega
    have hF2 := HF.out
    have hd2 : nd = nDigits u := by rw [hd, digL_length, if_neg hu0]
    have e2 : (digL u)[j]'(by omega) = dk[j]! := by
      have h3 : j < (Lib.decDigits u).length := by rw [decDigits_length]; omega
      have h4 : (digL u)[j]? = (Lib.decDigits u)[j]? := by unfold digL; rw [if_neg hu0]
      rw [List.getElem?_eq_getElem (by omega), List.getElem?_eq_getElem h3] at h4
      rw [Option.some.inj h4]
      rw [hd2] at hF2
      exact row_is_numeral hF2 j h3
    rw [e2]
  have hgrown : w.grownBy ((putRow (fun (b : UInt8) => Value.int .u8 (b.toNat : Int)) w gb 0 dk).drewN n) (some gb) := put_grown _
  have hblk : ∃ c2, ((putRow (fun (b : UInt8) => Value.int .u8 (b.toNat : Int)) w gb 0 dk).drewN n).heap[gb]? = some (.cells c2 198 (0, 0)) := ⟨_, put_heap _ HB.out.1⟩
  generalize ((putRow (fun (b : UInt8) => Value.int .u8 (b.toNat : Int)) w gb 0 dk).drewN n) = W2 at hcell hgrown hblk ⊢
  have HC := Lib.hid hcell
  have HG := Lib.hid (And.intro hgrown hblk)
  clear hcell hgrown hblk HF
  have hend : ∀ k, k ≤ nd → trimN (digL u) k = trimN (digL u) nd → (k = 0 ∨ trimN (digL u) k = k) → SetPost gb (digL u) p w (.returned (.tuple #[.int .i64 ((nd : Int) + p), .int .i64 (k : Int)])) W2 := fun k hk h1 h2 => by
    have hd := HND.out
    have hkt : (trimL (digL u)).length = k := by
      rw [trimL_length, ← hd, ← h1]
      rcases h2 with rfl | h2
      · rfl
      · exact h2
    refine ⟨by rw [hkt, hd], ?_, HG.out.1⟩
    obtain ⟨c2, hc2⟩ := HG.out.2
    refine ⟨_, hc2, c2, rfl, fun i hi => ?_⟩
    have hi2 : i < nd := by omega
    have h3 := HC.out i hi2
    simp [World.cell?, hc2] at h3
    rw [h3]
    simp [trimL]
  have HEND := Lib.hid hend
  clear hend
  go_wp2
  go_loopg [3] nd (fun m v wx => Aside (m ≤ nd ∧ v = .int .i64 (m : Int) ∧ trimN (digL u) m = trimN (digL u) nd) ∧ W2 = wx)
  case atStart => exact ⟨⟨Nat.le_refl _, rfl, rfl⟩, rfl⟩
  case round =>
    obtain ⟨hr, rfl⟩ := hrel
    obtain ⟨hk, rfl, ht⟩ := hr.out
    clear hr
    have HT := Lib.hid ht
    clear ht
    rcases Nat.eq_zero_or_pos gk with h0 | h0
    · subst h0
      have he := HEND.out 0 (by omega) HT.out (.inl rfl)
      have HE := Lib.hid he
      clear he
      go_wp2
      go_ret2
      exact HE.out
    · obtain ⟨k, rfl⟩ : ∃ q, gk = q + 1 := ⟨gk - 1, by omega⟩
      have hcell := HC.out k (by omega)
      obtain ⟨c, hc⟩ : ∃ c, c = (digL u)[k]'(by have := HND.out; omega) := ⟨_, rfl⟩
      rw [← hc] at hcell
      have hg : (digL u)[k]? = some c := by rw [List.getElem?_eq_getElem (by have := HND.out; omega), hc]
      have HGK := Lib.hid hg
      clear hg hc
      cases hz : ((c.toNat : Int) == 48) with
      | true =>
        have hc48 : c = 48 := by
          have h1 := eq_of_beq hz
          exact UInt8.toNat_inj.1 (by simpa using (by omega : c.toNat = 48))
        have ht2 : trimN (digL u) k = trimN (digL u) nd := by
          have h1 := HT.out
          rw [← h1]
          conv => rhs; unfold trimN
          rw [if_pos (by rw [HGK.out, hc48])]
        have HT2 := Lib.hid ht2
        clear ht2 hc48
        go_wp2
        go_roundg k
        case measure => omega
        case rel => exact ⟨⟨by omega, rfl, HT2.out⟩, rfl⟩
      | false =>
        have ht2 : trimN (digL u) (k + 1) = k + 1 := by
          unfold trimN
          rw [if_neg]
          rw [HGK.out]
          intro h1
          have h2 := Option.some.inj h1
          rw [h2] at hz
          exact absurd hz (by decide)
        have he := HEND.out (k + 1) hk HT.out (.inr ht2)
        have HE := Lib.hid he
        clear he ht2
        go_wp2
        go_ret2
        exact HE.out

end Go.Proofs.YtpkfdbhpmhahaaaGreatDoor
