/- bytes.Reader.Read, by its contract: it gives what is left, at most 512 bytes, or io.EOF. -/
import Derived.Test.YtdabllkphibfmaaGreatDoorScan
import Derived.Deep.QuietTactic
import Derived.BigQuiet
import Derived.StillTailTactics
namespace Go.Proofs.YtdabllkphibfmaaGreatDoor
open Go Go.RowKit

theorem size5 : (Tryz.prog.info? 5).map (·.size) = some 1 := by kernel_rfl

set_option maxRecDepth 100000 in
theorem read_more (T : List UInt8) (w : World) (r g t tc i : Nat) (pr : Int) (bs : List UInt8) (hr : w.heap[r]? = some (.cells #[.slice (some ⟨t,0,none⟩) T.length tc, .int .i64 i, .int .i64 pr] 116 (0, 0)))
    (ht : Row w t T) (hg : Buf w g bs) (hi : i < T.length) (hn : T.length ≤ tc) (htc : T.length ≤ 140737488351232) :
    Calls Tryz.prog 161 #[.pointer (some ⟨r,0,none⟩), .slice (some ⟨g,0,none⟩) 512 512] w fun e w' =>
      e = .returned (.tuple #[.int .i64 ((min (T.length - i) 512 : Nat) : Int), .nilIface]) ∧ w'.heap[r]? = some (.cells #[.slice (some ⟨t,0,none⟩) T.length tc, .int .i64 ((i + min (T.length - i) 512 : Nat) : Int), .int .i64 (-1)] 116 (0, 0)) ∧
      Buf w' g ((T.drop i).take (min (T.length - i) 512)) ∧ w'.heap.size = w.heap.size ∧ Fr (fun k => k = r ∨ k = g) w w' := by
  obtain ⟨cur, hgc, hgs, hgt⟩ := hg
  have hrg : g ≠ r := by rintro rfl; rw [hr] at hgc; simp at hgc
  have htr : t ≠ r := by
    rintro rfl
    obtain ⟨c, f, h1, _⟩ := ht
    rw [hr] at h1; simp at h1
  obtain ⟨h0, h1, h2, hf⟩ := cell3 hr
  have hf2 := hf 2
  have hlt : (i : Int) < T.length := by omega
  have hlt2 : i < tc := by omega
  have hle : i ≤ T.length := by omega
  have HR := Lib.hid hr
  have HG := Lib.hid hgc
  have HGS := Lib.hid hgs
  clear hf hr hgc hgs hgt
  go_enter Tryz.func161, Tryz.ntmps161
  go_wp2
  go_quiet (fail)
  go_wp2
  have hr1 := heap_set (w := w.drewN nq) (o := 2) (v := .int .i64 (-1)) HR.out
  have hg1 : ((w.drewN nq).setCell ⟨r, 2, none⟩ (.int .i64 (-1))).heap[g]? = _ := (heap_set_ne (w := w.drewN nq) hrg).trans HG.out
  have ht1 : Row ((w.drewN nq).setCell ⟨r, 2, none⟩ (.int .i64 (-1))) t T := ht.of_heap (heap_set_ne (w := w.drewN nq) htr)
  have hF1 : Fr (fun k => k = r ∨ k = g) w ((w.drewN nq).setCell ⟨r, 2, none⟩ (.int .i64 (-1))) := ((Fr.refl _ w).drewN nq).setCell (.inl (.inl rfl)) _
  have hS1 : ((w.drewN nq).setCell ⟨r, 2, none⟩ (.int .i64 (-1))).heap.size = w.heap.size := by simp [World.setCell]
  generalize (w.drewN nq).setCell { block := r, off := 2 } (Value.int IntKind.i64 (-1)) = W at *
  obtain ⟨k0, k1, k2, kf⟩ := cell3 hr1
  have HR1 := Lib.hid hr1
  have HG1 := Lib.hid hg1
  have HS1 := Lib.hid hS1
  clear kf hr1 h0 h1 h2 hf2 hg1 hS1 HR HG ht
  go_still_tail 10, (by kernel_rfl)
  change wpList _ _ _ _ _ W.drew
  obtain ⟨m, hm⟩ : ∃ m, m = min (T.length - i) 512 := ⟨_, rfl⟩
  have hml : m ≤ T.length - i := by omega
  have hcs : (Lib.byteCells ((T.drop i).take m)).length = m := by rw [byteCells_length]; simp; omega
  refine wpList_copy_own (by rfl) (.tmp 20) (.tmp 29) 31 31 rfl 5 Tryz.underlying31 size5 g 0 512 512 ⟨t, i, none⟩ (T.length - i) (tc - i) rfl (by simp [Act.eval]; intro h; omega) cur 5 HG1.out (Lib.byteCells ((T.drop i).take m)) (by rw [hcs, hm]) ?_ (by rw [hcs, HGS.out]; omega) (byteCells_oneCell _) ?_
  · intro j v hj
    rw [byteCells_get, List.getElem?_take] at hj
    split at hj
    · rw [List.getElem?_drop] at hj
      have hij : i + j < T.length := by
        rcases Nat.lt_or_ge (i + j) T.length with h | h
        · exact h
        · rw [List.getElem?_eq_none h] at hj; simp at hj
      rw [List.getElem?_eq_getElem hij] at hj
      simp only [Option.map_some, Option.some.injEq] at hj
      subst hj
      rw [Lib.addr_add]
      exact ht1.cell _ hij
    · simp at hj
  · have hg2 := setRow_heap W.drew g cur (cur.toList.take 0 ++ (Lib.byteCells ((T.drop i).take m) ++ cur.toList.drop (0 + (Lib.byteCells ((T.drop i).take m)).length))).toArray 5 (0, 0) HG1.out
    have hr2 : (W.drew.setRow g (cur.toList.take 0 ++ (Lib.byteCells ((T.drop i).take m) ++ cur.toList.drop (0 + (Lib.byteCells ((T.drop i).take m)).length))).toArray).heap[r]? = _ := (setRow_other W.drew g r _ (Ne.symm hrg)).trans HR1.out
    have hF2 : Fr (fun k => k = r ∨ k = g) w (W.drew.setRow g (cur.toList.take 0 ++ (Lib.byteCells ((T.drop i).take m) ++ cur.toList.drop (0 + (Lib.byteCells ((T.drop i).take m)).length))).toArray) := hF1.drew.setRow (.inl (.inr rfl)) _
    have hS2 : (W.drew.setRow g (cur.toList.take 0 ++ (Lib.byteCells ((T.drop i).take m) ++ cur.toList.drop (0 + (Lib.byteCells ((T.drop i).take m)).length))).toArray).heap.size = w.heap.size := by simpa [World.setRow] using HS1.out
    rw [hcs] at hg2 hr2 hF2 hS2 ⊢
    generalize W.drew.setRow g _ = W2 at *
    obtain ⟨q0, q1, q2, qf⟩ := cell3 hr2
    have qf1 := qf 1
    have HR2 := Lib.hid hr2
    have HG2 := Lib.hid hg2
    have HS2 := Lib.hid hS2
    have HM := Lib.hid hm
    have HC := Lib.hid hcs
    clear qf hr2 hg2 hS2 HR1 HG1 HS1 hm hcs k0 k1 k2
    have hb : (0 : Int) ≤ m := by omega
    have hb2 : (m : Int) ≤ 512 := by have := HM.out; omega
    go_wp2
    go_ret2
    have e : min (T.length - i) 512 = m := HM.out.symm
    rw [e]
    refine ⟨rfl, ?_, ?_, ?_, ?_⟩
    · exact (heap_set (o := 1) HR2.out).trans (by simp)
    · refine ⟨_, (heap_set_ne hrg).trans HG2.out, ?_, ?_⟩
      · have h2 := HC.out
        have h3 := HGS.out
        simp only [List.size_toArray, List.length_append, List.length_drop, Array.length_toList, List.take_zero, List.length_nil]
        omega
      · have h2 : ((T.drop i).take m).length = m := by rw [← byteCells_length]; exact HC.out
        rw [h2]
        simp only [List.take_zero, List.nil_append]
        rw [List.take_append_of_le_length (by rw [HC.out]; exact Nat.le_refl _)]
        exact List.take_of_length_le (by rw [HC.out]; exact Nat.le_refl _)
    · simpa [World.setCell] using HS2.out
    · exact hF2.setCell (.inl (.inl rfl)) _

/-- At the text's end: io.EOF. -/
theorem read_end (w : World) (r g t n tc : Nat) (pr : Int) (ea : Addr) (hE : w.cell? ⟨1, 0, none⟩ = some (.iface 150 (.pointer (some ea)))) (hr : w.heap[r]? = some (.cells #[.slice (some ⟨t,0,none⟩) n tc, .int .i64 n, .int .i64 pr] 116 (0, 0))) :
    Calls Tryz.prog 161 #[.pointer (some ⟨r,0,none⟩), .slice (some ⟨g,0,none⟩) 512 512] w fun e w' =>
      e = .returned (.tuple #[.int .i64 0, .iface 150 (.pointer (some ea))]) ∧ ∃ m, w' = w.drewN m := by
  obtain ⟨h0, h1, h2, hf⟩ := cell3 hr
  clear hf hr
  go_enter Tryz.func161, Tryz.ntmps161
  go_wp2
  go_quiet (fail)
  go_wp2
  go_quiet (fail)
  go_wp2
  go_ret2
  exact ⟨rfl, _, World.drewN_drewN _ _ _⟩

end Go.Proofs.YtdabllkphibfmaaGreatDoor
