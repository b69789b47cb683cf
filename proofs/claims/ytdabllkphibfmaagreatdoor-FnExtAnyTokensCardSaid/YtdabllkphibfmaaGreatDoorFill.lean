/- readIntoBuf, by its contracts. -/
import Derived.Test.YtdabllkphibfmaaGreatDoorRead
import Derived.Deep.RegionWith
import Derived.Deep.RegionHeld3
import Derived.BigRegion
namespace Go.Proofs.YtdabllkphibfmaaGreatDoor
open Go Go.RowKit

theorem nilAheadRead (a : Addr) (w : World) : (nilAhead 386 86 (.pointer (some a)) "Read").run Tryz.prog w = .ok (some false) w := by kernel_rfl
theorem methodRead (a : Addr) (w : World) : (method 386 86 (.pointer (some a)) "Read").run Tryz.prog w = .ok (161, .pointer (some a)) w := by kernel_rfl

/-- The scanner's block. -/
def Js (w : World) (j r : Nat) (bv : Value) (p : Nat) (ev : Value) : Prop := w.heap[j]? = some (.cells #[.iface 86 (.pointer (some ⟨r, 0, none⟩)), bv, .int .i64 p, ev] 91 (0, 0))
/-- The reader's block. -/
def Rd (w : World) (r t n tc i : Nat) : Prop := ∃ pr : Int, w.heap[r]? = some (.cells #[.slice (some ⟨t, 0, none⟩) n tc, .int .i64 i, .int .i64 pr] 116 (0, 0))
abbrev EOFv (ea : Addr) : Value := .iface 150 (.pointer (some ea))

set_option maxRecDepth 100000 in
theorem fill_chunk_more (T : List UInt8) (w : World) (j r g t tc i m p k : Nat) (bs : List UInt8) (hj : Js w j r (.slice (some ⟨g, 0, none⟩) m 512) p .nilIface) (hr : Rd w r t T.length tc i)
    (ht : Row w t T) (hg : Buf w g bs) (hi : i < T.length) (hn : T.length ≤ tc) (htc : T.length ≤ 140737488351232) (hk : k = min (T.length - i) 512) :
    Calls Tryz.prog 65 #[.pointer (some ⟨j, 0, none⟩)] w fun e w' => e = .returned .nilIface ∧ Js w' j r (.slice (some ⟨g, 0, none⟩) k 512) 0 .nilIface ∧
      Rd w' r t T.length tc (i + k) ∧ Buf w' g ((T.drop i).take k) ∧ w'.heap.size = w.heap.size ∧ Fr (fun x => x = j ∨ x = r ∨ x = g) w w' := by
  obtain ⟨pr, hr⟩ := hr
  have hjr : j ≠ r := by rintro rfl; rw [hj] at hr; simp at hr
  have hjg : j ≠ g := by
    rintro rfl
    obtain ⟨c, h1, _⟩ := hg
    rw [hj] at h1; simp at h1
  have hk1 : 0 < k := by omega
  have hk2 : k ≤ 512 := by omega
  have HRM := fun (W : World) a b c => read_more T W r g t tc i pr bs a b c hi hn htc
  rw [← hk] at HRM
  have HRM := Lib.hid HRM
  have HJ : Hid (w.heap[j]? = some (.cells #[.iface 86 (.pointer (some ⟨r, 0, none⟩)), .slice (some ⟨g, 0, none⟩) m 512, .int .i64 p, .nilIface] 91 (0, 0))) := Lib.hid hj
  obtain ⟨c0, c1, c2, c3, cf⟩ := cell4 hj
  have na := nilAheadRead
  have mt := methodRead
  have HR := Lib.hid hr
  clear hj hk hr cf
  go_enter Tryz.func65, Tryz.ntmps65
  go_wp2
  go_region_held3 (fun w' => w'.cell? ⟨j, 0, none⟩ = some (.iface 86 (.pointer (some ⟨r, 0, none⟩))) ∧ w'.cell? ⟨j, 1, none⟩ = some (.slice (some ⟨g, 0, none⟩) m 512)) (first | exact ⟨c0, c1⟩) (first | (go_at_call 161; refine (HRM.out _ ?_ ?_ ?_).mono ?_; exact HR.out; exact ht; exact hg; rintro e w1 ⟨rfl, hr1, hg1, hs1, hf1⟩; have hj1 : w1.heap[j]? = _ := (hf1.block j (lt_of_heap HJ.out) (by omega)).trans HJ.out; obtain ⟨c0, c1, c2, c3, cf⟩ := cell4 hj1; have cf0 := cf 0; have cf1 := cf 1; have cf2 := cf 2; have cf3 := cf 3; have HJ1 := Lib.hid hj1; have HR1 := Lib.hid hr1; have HS1 := Lib.hid hs1; clear cf hj1 hr1 hs1))
  have hb : (0 : Int) < (k : Int) := by omega
  have hb2 : (k : Int) ≤ 512 := by omega
  go_wp2
  go_ret
  have hgj : g ≠ j := Ne.symm hjg
  have hrj : r ≠ j := Ne.symm hjr
  refine ⟨rfl, ?_, ?_, ?_, ?_, ?_⟩
  · exact (heap_set (o := 2) (heap_set (o := 1) HJ1.out)).trans (by simp)
  · exact ⟨-1, ((heap_set_ne hrj).trans (heap_set_ne hrj)).trans HR1.out⟩
  · exact (hg1.of_heap (heap_set_ne hgj)).of_heap (heap_set_ne hgj)
  · simpa [World.setCell] using HS1.out
  · exact ((((Fr.refl _ w).drew).trans (hf1.mono (by omega))).setCell (.inl (.inl rfl)) _).setCell (.inl (.inl rfl)) _

set_option maxRecDepth 100000 in
theorem fill_chunk_end (w : World) (j r g t tc n m p : Nat) (bs : List UInt8) (ea : Addr) (hE : w.cell? ⟨1, 0, none⟩ = some (EOFv ea)) (hj : Js w j r (.slice (some ⟨g, 0, none⟩) m 512) p .nilIface) (hr : Rd w r t n tc n)
    (hg : Buf w g bs) :
    Calls Tryz.prog 65 #[.pointer (some ⟨j, 0, none⟩)] w fun e w' => e = .returned (EOFv ea) ∧ Js w' j r (.slice (some ⟨g, 0, none⟩) 0 512) 0 (EOFv ea) ∧ w'.heap.size = w.heap.size ∧ Fr (fun x => x = j) w w' := by
  obtain ⟨pr, hr⟩ := hr
  have hjg : j ≠ g := by
    rintro rfl
    obtain ⟨c, h1, _⟩ := hg
    rw [hj] at h1; simp at h1
  have HRM := Lib.hid (fun (W : World) a b => read_end W r g t n tc pr ea a b)
  have HE := Lib.hid hE
  have HJ : Hid (w.heap[j]? = some (.cells #[.iface 86 (.pointer (some ⟨r, 0, none⟩)), .slice (some ⟨g, 0, none⟩) m 512, .int .i64 p, .nilIface] 91 (0, 0))) := Lib.hid hj
  obtain ⟨c0, c1, c2, c3, cf⟩ := cell4 hj
  have cf1 := cf 1
  have cf2 := cf 2
  have cf3 := cf 3
  have na := nilAheadRead
  have mt := methodRead
  have HR := Lib.hid hr
  clear hj hr cf hE
  go_enter Tryz.func65, Tryz.ntmps65
  go_wp2
  go_region_held3 (fun w' => w'.cell? ⟨j, 0, none⟩ = some (.iface 86 (.pointer (some ⟨r, 0, none⟩))) ∧ w'.cell? ⟨j, 1, none⟩ = some (.slice (some ⟨g, 0, none⟩) m 512)) (first | exact ⟨c0, c1⟩) (first | (go_at_call 161; refine (HRM.out _ ?_ ?_).mono ?_; exact HE.out; exact HR.out; rintro e w1 ⟨rfl, q, rfl⟩))
  go_wp2
  go_ret
  refine ⟨rfl, ?_, ?_, ?_⟩
  · exact (heap_set (o := 2) (heap_set (o := 1) (heap_set (o := 3) HJ.out))).trans (by simp)
  · simp [World.setCell]
  · repeat first | exact Fr.refl _ _ | refine Fr.setCell ?_ (.inl (by exact rfl)) _ | refine Fr.drewN ?_ _ | refine Fr.drew ?_

/-- Where the end has been met, it is met again. -/
theorem fill_eof (w : World) (j r g m p : Nat) (ea : Addr) (hj : Js w j r (.slice (some ⟨g, 0, none⟩) m 512) p (EOFv ea)) :
    Calls Tryz.prog 65 #[.pointer (some ⟨j, 0, none⟩)] w fun e w' => e = .returned (EOFv ea) ∧ Js w' j r (.slice (some ⟨g, 0, none⟩) 0 512) 0 (EOFv ea) ∧ w'.heap.size = w.heap.size ∧ Fr (fun x => x = j) w w' := by
  have HJ : Hid (w.heap[j]? = some (.cells #[.iface 86 (.pointer (some ⟨r, 0, none⟩)), .slice (some ⟨g, 0, none⟩) m 512, .int .i64 p, EOFv ea] 91 (0, 0))) := Lib.hid hj
  obtain ⟨c0, c1, c2, c3, cf⟩ := cell4 hj
  have cf1 := cf 1
  have cf2 := cf 2
  clear hj cf
  go_enter Tryz.func65, Tryz.ntmps65
  go_wp2
  go_ret
  refine ⟨rfl, ?_, ?_, ?_⟩
  · exact (heap_set (o := 2) (heap_set (o := 1) HJ.out)).trans (by simp)
  · simp [World.setCell]
  · repeat first | exact Fr.refl _ _ | refine Fr.setCell ?_ (.inl (by exact rfl)) _ | refine Fr.drewN ?_ _ | refine Fr.drew ?_

end Go.Proofs.YtdabllkphibfmaaGreatDoor
