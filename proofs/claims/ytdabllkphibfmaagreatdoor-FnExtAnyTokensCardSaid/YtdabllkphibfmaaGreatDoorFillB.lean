/- readIntoBuf, at its first call. -/
import Derived.Test.YtdabllkphibfmaaGreatDoorFill
namespace Go.Proofs.YtdabllkphibfmaaGreatDoor
open Go Go.RowKit

theorem makeRow (w : World) : (Instr.makeSlice 31 (.int .i64 0) (.int .i64 512)).run Tryz.prog w = .ok (.slice (some ⟨w.heap.size, 0, none⟩) 0 512) (w.alloc (.cells (Array.replicate 512 (.int .u8 0)) 5)) := by kernel_rfl

set_option maxRecDepth 100000 in
theorem fill_fresh_more (T : List UInt8) (w : World) (j r t tc k : Nat) (hj : Js w j r (.slice none 0 0) 0 .nilIface) (hr : Rd w r t T.length tc 0)
    (ht : Row w t T) (hi : 0 < T.length) (hn : T.length ≤ tc) (htc : T.length ≤ 140737488351232) (hk : k = min T.length 512) :
    Calls Tryz.prog 65 #[.pointer (some ⟨j, 0, none⟩)] w fun e w' => e = .returned .nilIface ∧ Js w' j r (.slice (some ⟨w.heap.size, 0, none⟩) k 512) 0 .nilIface ∧
      Rd w' r t T.length tc k ∧ Buf w' w.heap.size (T.take k) ∧ Fr (fun x => x = j ∨ x = r) w w' := by
  obtain ⟨pr, hr⟩ := hr
  have hjr : j ≠ r := by rintro rfl; rw [hj] at hr; simp at hr
  have hjs : j < w.heap.size := lt_of_heap hj
  have hrs : r < w.heap.size := lt_of_heap hr
  have hts : t < w.heap.size := by obtain ⟨c, f, h1, _⟩ := ht; exact lt_of_heap h1
  have htj : t ≠ j := by
    rintro rfl
    obtain ⟨c, f, h1, _⟩ := ht
    rw [hj] at h1; simp at h1
  have hk1 : 0 < k := by omega
  have hk2 : k ≤ 512 := by omega
  have HRM := fun (W : World) g a b c => read_more T W r g t tc 0 pr [] a b c hi hn htc
  simp only [Nat.sub_zero, Nat.zero_add, List.drop_zero] at HRM
  rw [← hk] at HRM
  have HRM := Lib.hid HRM
  have HJ : Hid (w.heap[j]? = some (.cells #[.iface 86 (.pointer (some ⟨r, 0, none⟩)), .slice none 0 0, .int .i64 0, .nilIface] 91 (0, 0))) := Lib.hid hj
  obtain ⟨c0, c1, c2, c3, cf⟩ := cell4 hj
  have cf1 := cf 1
  have na := nilAheadRead
  have mt := methodRead
  have mk := makeRow
  have HR := Lib.hid hr
  clear hj hk hr cf
  obtain ⟨H, hH⟩ : ∃ H, H = w.heap.size := ⟨_, rfl⟩
  have HH := Lib.hid hH
  clear hH
  go_enter Tryz.func65, Tryz.ntmps65
  go_wp2
  have hH := HH.out
  rw [← hH]
  have hsz : (w.setCell ⟨j, 1, none⟩ (.slice (some ⟨H, 0, none⟩) 0 512)).heap.size = H := by simp [World.setCell]; exact hH.symm
  have hj1 : ((w.setCell ⟨j, 1, none⟩ (.slice (some ⟨H, 0, none⟩) 0 512)).alloc (.cells (Array.replicate 512 (.int .u8 0)) 5)).heap[j]? = _ := (Below.heap_alloc _ _ j (by omega)).trans (heap_set (o := 1) HJ.out)
  have hr1 : ((w.setCell ⟨j, 1, none⟩ (.slice (some ⟨H, 0, none⟩) 0 512)).alloc (.cells (Array.replicate 512 (.int .u8 0)) 5)).heap[r]? = _ := (Below.heap_alloc _ _ r (by omega)).trans ((heap_set_ne (Ne.symm hjr)).trans HR.out)
  have ht1 : Row ((w.setCell ⟨j, 1, none⟩ (.slice (some ⟨H, 0, none⟩) 0 512)).alloc (.cells (Array.replicate 512 (.int .u8 0)) 5)) t T := ht.of_heap ((Below.heap_alloc _ _ t (by omega)).trans (heap_set_ne htj))
  have hg1 : Buf ((w.setCell ⟨j, 1, none⟩ (.slice (some ⟨H, 0, none⟩) 0 512)).alloc (.cells (Array.replicate 512 (.int .u8 0)) 5)) H [] := ⟨_, by have h := heap_alloc_new (w.setCell ⟨j, 1, none⟩ (.slice (some ⟨H, 0, none⟩) 0 512)) (.cells (Array.replicate 512 (.int .u8 0)) 5); rw [hsz] at h; exact h, by simp, by simp [Lib.byteCells]⟩
  have hf1 : Fr (fun x => x = j ∨ x = r) w ((w.setCell ⟨j, 1, none⟩ (.slice (some ⟨H, 0, none⟩) 0 512)).alloc (.cells (Array.replicate 512 (.int .u8 0)) 5)) := ((Fr.refl _ w).setCell (.inl (.inl rfl)) _).alloc _
  have hs1 : ((w.setCell ⟨j, 1, none⟩ (.slice (some ⟨H, 0, none⟩) 0 512)).alloc (.cells (Array.replicate 512 (.int .u8 0)) 5)).heap.size = H + 1 := by simp [World.setCell]; exact hH.symm
  generalize ((w.setCell ⟨j, 1, none⟩ (.slice (some ⟨H, 0, none⟩) 0 512)).alloc (.cells (Array.replicate 512 (.int .u8 0)) 5)) = W at *
  clear c0 c1 c2 c3 cf1
  obtain ⟨c0, c1, c2, c3, cf⟩ := cell4 hj1
  have HJ0 := Lib.hid hj1
  have HR0 := Lib.hid hr1
  have HS0 := Lib.hid hs1
  have hjH : j < H := by omega
  have hrH : r < H := by omega
  clear cf hj1 hr1 hs1 hH hsz
  go_region_held3 (fun w' => w'.cell? ⟨j, 0, none⟩ = some (.iface 86 (.pointer (some ⟨r, 0, none⟩))) ∧ w'.cell? ⟨j, 1, none⟩ = some (.slice (some ⟨H, 0, none⟩) 0 512)) (first | exact ⟨c0, c1⟩) (first | (go_at_call 161; refine (HRM.out _ H ?_ ?_ ?_).mono ?_; exact HR0.out; exact ht1; exact hg1; rintro e w1 ⟨rfl, hr1, hg2, hs1, hf2⟩; have hj1 : w1.heap[j]? = _ := (hf2.block j (lt_of_heap HJ0.out) (by omega)).trans HJ0.out; obtain ⟨c0, c1, c2, c3, cf⟩ := cell4 hj1; have cf0 := cf 0; have cf1 := cf 1; have cf2 := cf 2; have cf3 := cf 3; have HJ1 := Lib.hid hj1; have HR1 := Lib.hid hr1; have HS1 := Lib.hid hs1; clear cf hj1 hr1 hs1))
  have hb : (0 : Int) < (k : Int) := by omega
  have hb2 : (k : Int) ≤ 512 := by omega
  go_wp2
  go_ret
  have hh := HH.out
  clear HH
  subst hh
  have hgj : w.heap.size ≠ j := by omega
  have hrj : r ≠ j := Ne.symm hjr
  refine ⟨rfl, ?_, ?_, ?_, ?_⟩
  · exact (heap_set (o := 2) (heap_set (o := 1) HJ1.out)).trans (by simp)
  · exact ⟨-1, ((heap_set_ne hrj).trans (heap_set_ne hrj)).trans HR1.out⟩
  · exact (hg2.of_heap (heap_set_ne hgj)).of_heap (heap_set_ne hgj)
  · exact (((hf1.drew).trans' hf2 (by intro x hx h; rcases h with h | h <;> omega)).setCell (.inl (.inl rfl)) _).setCell (.inl (.inl rfl)) _

set_option maxRecDepth 100000 in
theorem fill_fresh_end (w : World) (j r t tc : Nat) (ea : Addr) (hE : w.cell? ⟨1, 0, none⟩ = some (EOFv ea)) (h1j : j ≠ 1) (hj : Js w j r (.slice none 0 0) 0 .nilIface) (hr : Rd w r t 0 tc 0) :
    Calls Tryz.prog 65 #[.pointer (some ⟨j, 0, none⟩)] w fun e w' => e = .returned (EOFv ea) ∧ Js w' j r (.slice (some ⟨w.heap.size, 0, none⟩) 0 512) 0 (EOFv ea) ∧
      Buf w' w.heap.size [] ∧ Fr (fun x => x = j) w w' := by
  obtain ⟨pr, hr⟩ := hr
  have hjr : j ≠ r := by rintro rfl; rw [hj] at hr; simp at hr
  have hjs : j < w.heap.size := lt_of_heap hj
  have hrs : r < w.heap.size := lt_of_heap hr
  have h1s : 1 < w.heap.size := World.block_lt_of_cell? w ⟨1, 0, none⟩ hE
  have HRM := fun (W : World) g a b => read_end W r g t 0 tc pr ea a b
  have HRM := Lib.hid HRM
  have HJ : Hid (w.heap[j]? = some (.cells #[.iface 86 (.pointer (some ⟨r, 0, none⟩)), .slice none 0 0, .int .i64 0, .nilIface] 91 (0, 0))) := Lib.hid hj
  obtain ⟨c0, c1, c2, c3, cf⟩ := cell4 hj
  have cf1 := cf 1
  have na := nilAheadRead
  have mt := methodRead
  have mk := makeRow
  have HR := Lib.hid hr
  have HE := Lib.hid hE
  clear hj hr cf hE
  obtain ⟨H, hH⟩ : ∃ H, H = w.heap.size := ⟨_, rfl⟩
  have HH := Lib.hid hH
  clear hH
  go_enter Tryz.func65, Tryz.ntmps65
  go_wp2
  have hH := HH.out
  rw [← hH]
  have hsz : (w.setCell ⟨j, 1, none⟩ (.slice (some ⟨H, 0, none⟩) 0 512)).heap.size = H := by simp [World.setCell]; exact hH.symm
  have hj1 : ((w.setCell ⟨j, 1, none⟩ (.slice (some ⟨H, 0, none⟩) 0 512)).alloc (.cells (Array.replicate 512 (.int .u8 0)) 5)).heap[j]? = _ := (Below.heap_alloc _ _ j (by omega)).trans (heap_set (o := 1) HJ.out)
  have hr1 : ((w.setCell ⟨j, 1, none⟩ (.slice (some ⟨H, 0, none⟩) 0 512)).alloc (.cells (Array.replicate 512 (.int .u8 0)) 5)).heap[r]? = _ := (Below.heap_alloc _ _ r (by omega)).trans ((heap_set_ne (Ne.symm hjr)).trans HR.out)
  have hE1 : ((w.setCell ⟨j, 1, none⟩ (.slice (some ⟨H, 0, none⟩) 0 512)).alloc (.cells (Array.replicate 512 (.int .u8 0)) 5)).cell? ⟨1, 0, none⟩ = some (EOFv ea) := (World.cell?_of_block (a := ⟨1, 0, none⟩) ((Below.heap_alloc _ _ 1 (by omega)).trans (heap_set_ne (Ne.symm h1j)))).trans HE.out
  have hg1 : Buf ((w.setCell ⟨j, 1, none⟩ (.slice (some ⟨H, 0, none⟩) 0 512)).alloc (.cells (Array.replicate 512 (.int .u8 0)) 5)) H [] := ⟨_, by have h := heap_alloc_new (w.setCell ⟨j, 1, none⟩ (.slice (some ⟨H, 0, none⟩) 0 512)) (.cells (Array.replicate 512 (.int .u8 0)) 5); rw [hsz] at h; exact h, by simp, by simp [Lib.byteCells]⟩
  have hf1 : Fr (fun x => x = j) w ((w.setCell ⟨j, 1, none⟩ (.slice (some ⟨H, 0, none⟩) 0 512)).alloc (.cells (Array.replicate 512 (.int .u8 0)) 5)) := ((Fr.refl (fun x => x = j) w).setCell (.inl rfl) _).alloc _
  have hs1 : ((w.setCell ⟨j, 1, none⟩ (.slice (some ⟨H, 0, none⟩) 0 512)).alloc (.cells (Array.replicate 512 (.int .u8 0)) 5)).heap.size = H + 1 := by simp [World.setCell]; exact hH.symm
  generalize ((w.setCell ⟨j, 1, none⟩ (.slice (some ⟨H, 0, none⟩) 0 512)).alloc (.cells (Array.replicate 512 (.int .u8 0)) 5)) = W at *
  clear c0 c1 c2 c3 cf1
  obtain ⟨c0, c1, c2, c3, cf⟩ := cell4 hj1
  have HJ0 := Lib.hid hj1
  have HR0 := Lib.hid hr1
  have HS0 := Lib.hid hs1
  have hjH : j < H := by omega
  have hrH : r < H := by omega
  have cf1 := cf 1
  have cf2 := cf 2
  have cf3 := cf 3
  have HE1 := Lib.hid hE1
  clear cf hj1 hr1 hs1 hH hsz hE1
  go_region_held3 (fun w' => w'.cell? ⟨j, 0, none⟩ = some (.iface 86 (.pointer (some ⟨r, 0, none⟩))) ∧ w'.cell? ⟨j, 1, none⟩ = some (.slice (some ⟨H, 0, none⟩) 0 512)) (first | exact ⟨c0, c1⟩) (first | (go_at_call 161; refine (HRM.out _ H ?_ ?_).mono ?_; exact HE1.out; exact HR0.out; rintro e w1 ⟨rfl, q, rfl⟩))
  go_wp2
  go_ret
  have hh := HH.out
  clear HH
  subst hh
  have hgj : w.heap.size ≠ j := by omega
  refine ⟨rfl, ?_, ?_, ?_⟩
  · exact (heap_set (o := 2) (heap_set (o := 1) (heap_set (o := 3) HJ0.out))).trans (by simp)
  · exact ((hg1.of_heap (heap_set_ne hgj)).of_heap (heap_set_ne hgj)).of_heap (heap_set_ne hgj)
  · exact (((hf1.drewN _).setCell (p := ⟨j, 3, none⟩) (.inl rfl) _).setCell (p := ⟨j, 1, none⟩) (.inl rfl) _).setCell (p := ⟨j, 2, none⟩) (.inl rfl) _

end Go.Proofs.YtdabllkphibfmaaGreatDoor
