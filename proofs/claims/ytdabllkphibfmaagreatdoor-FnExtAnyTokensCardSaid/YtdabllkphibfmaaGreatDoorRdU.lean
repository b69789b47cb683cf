/- A string of JSON, as the reference reads it: walked, but for \\u. -/
import Derived.Test.YtdabllkphibfmaaGreatDoorRdT
import Derived.Deep.RegionWith
import Derived.Deep.RegionHeld3
import Derived.Test.YtdabllkphibfmaaGreatDoorRdG
namespace Go.Proofs.YtdabllkphibfmaaGreatDoor
open Go Go.RowKit
set_option linter.unusedSimpArgs false
set_option linter.unusedVariables false

theorem heap_alloc_new'' (w : World) (o : Obj) {n : Nat} (h : w.heap.size = n) : (w.alloc o).heap[n]? = some o := by
  subst h; exact heap_alloc_new w o

theorem RdAt.goI {b : Nat} {s : ByteArray} {q : Nat} {far : Bool} {w : World} (h : RdAt b s q far w) (q' : Nat) {x : Int} (hx : x = (q' : Nat)) : RdAt b s q' far (w.setCell ⟨b, 1, none⟩ (.int .i64 x)) := hx ▸ h.go q'
def RunK (x : ByteArray) (wr : World) (v6 v7 : Value) (wx : World) : Prop := ∃ n cc : Int, RuneN x n ∧ v6 = .int .i64 n ∧ v7 = .int .i64 cc ∧ ∃ m, wx = wr.drewN m
theorem runK_mk {x : ByteArray} {wr : World} {n cc : Int} (h : RuneN x n) (m : Nat) : RunK x wr (.int .i64 n) (.int .i64 cc) (wr.drewN m) := ⟨n, cc, h, rfl, rfl, m, rfl⟩
def TxR (b : Nat) (s : ByteArray) (w : World) (E : StrEnd) (m : Nat) (v : Value) (wx : World) : Prop := ∃ (q : Nat) (acc : List UInt8), m = s.size - q ∧ Tx b s w E q acc v wx

theorem run_sub (s : ByteArray) (p P : Nat) (h1 : p ≤ P) (h2 : P ≤ s.size) (W : World) : (Instr.slice 9 (.string s) (some (.int .i64 (p : Nat))) (some (.int .i64 (P : Nat))) none).run Tryz.prog W = .ok (.string (s.extract p P)) W := by
  have h3 : (p : Int) ≤ (P : Nat) := by omega
  have h4 : (P : Int) ≤ (s.size : Nat) := by omega
  go_simp

/-- Some bytes are written, and the place is set behind that. -/
theorem tx_far {b : Nat} {s : ByteArray} {w : World} {E : StrEnd} {q : Nat} {acc : List UInt8} {v : Value} {wr w3 : World} {t : ByteArray} {q' q0 : Nat} {v' : Value} (hT : Tx b s w E q acc v wr) (hb : b < w.heap.size)
    (hrun : strAll (acc ++ t.data.toList) (s.data.toList.drop q') = E) (hq' : q' ≤ s.size) (hq : q + t.size ≤ q') (hR : RdAt b s q0 false w3) (hF : Fb1 b w w3)
    (hO : w3.ownsRow w.heap.size 5 1 v' (acc.length + t.size) (Lib.byteCells acc ++ Lib.strCells t)) : Tx b s w E q' (acc ++ t.data.toList) v' (w3.setCell ⟨b, 1, none⟩ (.int .i64 (q' : Nat))) := by
  refine ⟨hq', ?_, ?_, hR.go q', fb_set hF _ _, hrun⟩
  · have := hT.al
    have e : t.data.toList.length = t.size := rfl
    simp only [List.length_append, e]
    omega
  · have e : Lib.byteCells (acc ++ t.data.toList) = Lib.byteCells acc ++ Lib.strCells t := by simp [Lib.byteCells, Lib.strCells]
    have e2 : (acc ++ t.data.toList).length = acc.length + t.size := by rw [List.length_append]; rfl
    rw [e, e2]
    exact own_fr hO (fb_set (fb_refl b w3) _ _) hb

set_option maxRecDepth 1000000 in
set_option maxHeartbeats 16000000 in
theorem text (b : Nat) (s : ByteArray) (q0 : Nat) (w : World) (hq0 : q0 < s.size) (h : RdAt b s q0 false w) (hl : s.size ≤ 1000000) :
    Calls Tryz.prog 32 #[.pointer (some ⟨b, 0, none⟩)] w (TextPost b s (strAll [] (s.data.toList.drop (q0 + 1))) w) := by
  have hb : b < w.heap.size := lt_of_heap h
  obtain ⟨E, hE⟩ : ∃ E, strAll [] (s.data.toList.drop (q0 + 1)) = E := ⟨_, rfl⟩
  rw [hE]
  obtain ⟨i0, hi0, hz0, hz1, hz2⟩ := info_parts info5
  obtain ⟨c0, c1, c2, cf⟩ := cell3 h
  have H0 := Lib.hid (show Tx b s w E (q0 + 1) [] (.slice none 0 0) (w.setCell ⟨b, 1, none⟩ (.int .i64 ((q0 : Int) + 1))) from ⟨hq0, by simp, World.ownsRow_nil _ _ _ _, h.go (q0 + 1), fb_set (fb_refl b w) _ _, hE⟩)
  clear h hE
  go_enter Tryz.func32, Tryz.ntmps32
  go_wp2
  clear c0 c1 c2 cf
  go_loopg [4] (s.size - (q0 + 1)) (fun m v wx => Aside (TxR b s w E m v wx))
  case atStart => exact ⟨q0 + 1, [], rfl, H0.out⟩
  case round =>
    obtain ⟨q, acc, rfl, hT⟩ := hrel.out
    clear hrel H0
    have hqs := hT.le
    have hal := hT.al
    have hbr : b < wr.heap.size := Nat.lt_of_lt_of_le hb hT.fr.size
    obtain ⟨c0, c1, c2, cf⟩ := cell3 hT.rd
    have HT := Lib.hid hT
    clear hT
    by_cases hlt : q < s.size
    · have hdrop := str_drop s q hlt
      obtain ⟨c, hc⟩ : ∃ c, s[q]'hlt = c := ⟨_, rfl⟩
      rw [hc] at hdrop
      have HDR := Lib.hid hdrop
      clear hdrop
      by_cases h34 : c = 34
      · subst h34
        have HE : Hid (E = .ok acc (s.data.toList.drop (q + 1))) := Lib.hid (by rw [← HT.out.run]; exact strAll_done (by rw [HDR.out]; rfl))
        as_aux_lemma =>
        go_wp2
        go_quiet (fail)
        go_wp2
        go_quiet (fail)
        go_upto_region 7 with fail
        have hcv := fun n => conv_own (own_fr HT.out.own (w2 := ((wr.drewN n).setCell ⟨b, 1, none⟩ (.int .i64 ((q : Int) + 1)))) (fb_set (fb_n (fb_refl b wr) n) _ _) hb)
        go_wp2
        go_ret2
        refine ⟨_, true, false, q + 1, rfl, by omega, (HT.out.rd.drewN _).go (q + 1), fb_set (fb_n HT.out.fr _) _ _, (fun h => by cases h), fun _ => ?_⟩
        rw [HE.out]
        exact ⟨rfl, rfl, rfl⟩
      · have n34 : ((c.toNat : Int) == 34) = false := byte_ne' (k := 34) h34
        by_cases h92 : c = 92
        · subst h92
          by_cases hl2 : q + 1 < s.size
          · have hdrop2 := str_drop s (q + 1) hl2
            obtain ⟨p, hp⟩ : ∃ p, p = q + 1 := ⟨_, rfl⟩
            have HP := Lib.hid hp
            have hlp : p < s.size := by omega
            obtain ⟨e, he⟩ : ∃ e, s[p]'hlp = e := ⟨_, rfl⟩
            have HDR2 : Hid (s.data.toList.drop (q + 1) = e :: s.data.toList.drop (q + 1 + 1)) := Lib.hid (by
              rw [← hp]
              rw [← he]
              exact str_drop s p hlp)
            have hpi : (q : Int) + 1 = (p : Nat) := by omega
            clear hdrop2 hp hl2
            go_wp2
            go_quiet (fail)
            go_wp2
            go_quiet (fail)
            go_upto_region 16 with fail
            generalize hW1 : World.setCell _ (⟨b, 1, none⟩ : Addr) _ = W1
            have HR1 : Hid (RdAt b s p false W1) := Lib.hid (by
              rw [← hW1]
              first | rw [hpi] | skip
              repeat (first | exact HT.out.rd | refine RdAt.drewN ?_ _ | refine RdAt.go (q := q) ?_ p))
            have HF1 : Hid (Fb1 b wr W1) := Lib.hid (by
              rw [← hW1]
              repeat (first | exact fb_refl _ _ | refine fb_set ?_ _ _ | refine fb_n ?_ _))
            clear hW1 hpi c0 c1 c2 cf
            obtain ⟨c0, c1, c2, cf⟩ := cell3 HR1.out
            go_quiet (fail)
            go_wp2
            go_quiet (fail)
            go_upto_block 2 with fail
            generalize hW : World.setCell _ (⟨b, 1, none⟩ : Addr) _ = W
            have HRW : Hid (RdAt b s (q + 1 + 1) false W) := Lib.hid (by
              rw [← hW, ← HP.out]
              repeat (first | exact HR1.out | refine RdAt.drewN ?_ _ | refine RdAt.go (q := p) ?_ (p + 1)))
            have HFW : Hid (Fb1 b wr W) := Lib.hid (by
              rw [← hW]
              repeat (first | exact HF1.out | refine fb_set ?_ _ _ | refine fb_n ?_ _))
            clear hW c0 c1 c2 cf
            have hpq : q + 1 + 1 ≤ s.size := by have := HP.out; omega
            obtain ⟨c0, c1, c2, cf⟩ := cell3 HRW.out
            clear he
            by_cases he34 : e = 34
            · subst he34
              have HST : Hid (strStep (s.data.toList.drop q) = .more [34] (s.data.toList.drop (q + 1 + 1))) := Lib.hid (by rw [HDR.out, HDR2.out]; rfl)
              as_aux_lemma =>
              go_wp2_with (first | (at_builtin; refine wpList_append_lies _ (by rfl) _ _ _ (by rfl) w.heap.size 5 i0 _ 1 1 Tryz.underlying31 hi0 hz0 hz1 hz2 rfl (by omega) u4 acc.length (Lib.byteCells acc) (by rfl) ((own_fr HT.out.own HFW.out hb).alloc _) ⟨W.heap.size, 0, none⟩ 1 1 [.int .u8 34] (by rfl) (by rfl) (World.news_of_block (cs := #[.int .u8 34]) (t := 5) (fr := (0, 0)) (heap_alloc_new'' _ _ (by simp))) (by simp [Value.oneCell']) (by omega) (by unfold maxLen; omega) (by omega) (by have := HT.out.fr.size; have := HFW.out.size; simp; omega) (W.heap.size + 1) (by simp) ?_; intro gg cap3 w3 hown3 hgrow hat hlt3; have HO3 := Lib.hid hown3; have HG3 := Lib.hid hgrow; clear hown3 hgrow hat))
              go_roundg (s.size - (q + 1 + 1))
              case measure => omega
              case rel => exact ⟨q + 1 + 1, acc ++ [34], rfl, tx_one (x := 34) HT.out hb HST.out (by omega) (by omega) HRW.out HFW.out HG3.out HO3.out⟩
            have m34 : ((e.toNat : Int) == 34) = false := byte_ne' (k := 34) he34
            by_cases he92 : e = 92
            · subst he92
              have HST : Hid (strStep (s.data.toList.drop q) = .more [92] (s.data.toList.drop (q + 1 + 1))) := Lib.hid (by rw [HDR.out, HDR2.out]; rfl)
              as_aux_lemma =>
              go_wp2_with (first | (at_builtin; refine wpList_append_lies _ (by rfl) _ _ _ (by rfl) w.heap.size 5 i0 _ 1 1 Tryz.underlying31 hi0 hz0 hz1 hz2 rfl (by omega) u4 acc.length (Lib.byteCells acc) (by rfl) ((own_fr HT.out.own HFW.out hb).alloc _) ⟨W.heap.size, 0, none⟩ 1 1 [.int .u8 92] (by rfl) (by rfl) (World.news_of_block (cs := #[.int .u8 92]) (t := 5) (fr := (0, 0)) (heap_alloc_new'' _ _ (by simp))) (by simp [Value.oneCell']) (by omega) (by unfold maxLen; omega) (by omega) (by have := HT.out.fr.size; have := HFW.out.size; simp; omega) (W.heap.size + 1) (by simp) ?_; intro gg cap3 w3 hown3 hgrow hat hlt3; have HO3 := Lib.hid hown3; have HG3 := Lib.hid hgrow; clear hown3 hgrow hat))
              go_roundg (s.size - (q + 1 + 1))
              case measure => omega
              case rel => exact ⟨q + 1 + 1, acc ++ [92], rfl, tx_one (x := 92) HT.out hb HST.out (by omega) (by omega) HRW.out HFW.out HG3.out HO3.out⟩
            have m92 : ((e.toNat : Int) == 92) = false := byte_ne' (k := 92) he92
            by_cases he47 : e = 47
            · subst he47
              have HST : Hid (strStep (s.data.toList.drop q) = .more [47] (s.data.toList.drop (q + 1 + 1))) := Lib.hid (by rw [HDR.out, HDR2.out]; rfl)
              as_aux_lemma =>
              go_wp2_with (first | (at_builtin; refine wpList_append_lies _ (by rfl) _ _ _ (by rfl) w.heap.size 5 i0 _ 1 1 Tryz.underlying31 hi0 hz0 hz1 hz2 rfl (by omega) u4 acc.length (Lib.byteCells acc) (by rfl) ((own_fr HT.out.own HFW.out hb).alloc _) ⟨W.heap.size, 0, none⟩ 1 1 [.int .u8 47] (by rfl) (by rfl) (World.news_of_block (cs := #[.int .u8 47]) (t := 5) (fr := (0, 0)) (heap_alloc_new'' _ _ (by simp))) (by simp [Value.oneCell']) (by omega) (by unfold maxLen; omega) (by omega) (by have := HT.out.fr.size; have := HFW.out.size; simp; omega) (W.heap.size + 1) (by simp) ?_; intro gg cap3 w3 hown3 hgrow hat hlt3; have HO3 := Lib.hid hown3; have HG3 := Lib.hid hgrow; clear hown3 hgrow hat))
              go_roundg (s.size - (q + 1 + 1))
              case measure => omega
              case rel => exact ⟨q + 1 + 1, acc ++ [47], rfl, tx_one (x := 47) HT.out hb HST.out (by omega) (by omega) HRW.out HFW.out HG3.out HO3.out⟩
            have m47 : ((e.toNat : Int) == 47) = false := byte_ne' (k := 47) he47
            by_cases he98 : e = 98
            · subst he98
              have HST : Hid (strStep (s.data.toList.drop q) = .more [8] (s.data.toList.drop (q + 1 + 1))) := Lib.hid (by rw [HDR.out, HDR2.out]; rfl)
              as_aux_lemma =>
              go_wp2_with (first | (at_builtin; refine wpList_append_lies _ (by rfl) _ _ _ (by rfl) w.heap.size 5 i0 _ 1 1 Tryz.underlying31 hi0 hz0 hz1 hz2 rfl (by omega) u4 acc.length (Lib.byteCells acc) (by rfl) ((own_fr HT.out.own HFW.out hb).alloc _) ⟨W.heap.size, 0, none⟩ 1 1 [.int .u8 8] (by rfl) (by rfl) (World.news_of_block (cs := #[.int .u8 8]) (t := 5) (fr := (0, 0)) (heap_alloc_new'' _ _ (by simp))) (by simp [Value.oneCell']) (by omega) (by unfold maxLen; omega) (by omega) (by have := HT.out.fr.size; have := HFW.out.size; simp; omega) (W.heap.size + 1) (by simp) ?_; intro gg cap3 w3 hown3 hgrow hat hlt3; have HO3 := Lib.hid hown3; have HG3 := Lib.hid hgrow; clear hown3 hgrow hat))
              go_roundg (s.size - (q + 1 + 1))
              case measure => omega
              case rel => exact ⟨q + 1 + 1, acc ++ [8], rfl, tx_one (x := 8) HT.out hb HST.out (by omega) (by omega) HRW.out HFW.out HG3.out HO3.out⟩
            have m98 : ((e.toNat : Int) == 98) = false := byte_ne' (k := 98) he98
            by_cases he102 : e = 102
            · subst he102
              have HST : Hid (strStep (s.data.toList.drop q) = .more [12] (s.data.toList.drop (q + 1 + 1))) := Lib.hid (by rw [HDR.out, HDR2.out]; rfl)
              as_aux_lemma =>
              go_wp2_with (first | (at_builtin; refine wpList_append_lies _ (by rfl) _ _ _ (by rfl) w.heap.size 5 i0 _ 1 1 Tryz.underlying31 hi0 hz0 hz1 hz2 rfl (by omega) u4 acc.length (Lib.byteCells acc) (by rfl) ((own_fr HT.out.own HFW.out hb).alloc _) ⟨W.heap.size, 0, none⟩ 1 1 [.int .u8 12] (by rfl) (by rfl) (World.news_of_block (cs := #[.int .u8 12]) (t := 5) (fr := (0, 0)) (heap_alloc_new'' _ _ (by simp))) (by simp [Value.oneCell']) (by omega) (by unfold maxLen; omega) (by omega) (by have := HT.out.fr.size; have := HFW.out.size; simp; omega) (W.heap.size + 1) (by simp) ?_; intro gg cap3 w3 hown3 hgrow hat hlt3; have HO3 := Lib.hid hown3; have HG3 := Lib.hid hgrow; clear hown3 hgrow hat))
              go_roundg (s.size - (q + 1 + 1))
              case measure => omega
              case rel => exact ⟨q + 1 + 1, acc ++ [12], rfl, tx_one (x := 12) HT.out hb HST.out (by omega) (by omega) HRW.out HFW.out HG3.out HO3.out⟩
            have m102 : ((e.toNat : Int) == 102) = false := byte_ne' (k := 102) he102
            by_cases he110 : e = 110
            · subst he110
              have HST : Hid (strStep (s.data.toList.drop q) = .more [10] (s.data.toList.drop (q + 1 + 1))) := Lib.hid (by rw [HDR.out, HDR2.out]; rfl)
              as_aux_lemma =>
              go_wp2_with (first | (at_builtin; refine wpList_append_lies _ (by rfl) _ _ _ (by rfl) w.heap.size 5 i0 _ 1 1 Tryz.underlying31 hi0 hz0 hz1 hz2 rfl (by omega) u4 acc.length (Lib.byteCells acc) (by rfl) ((own_fr HT.out.own HFW.out hb).alloc _) ⟨W.heap.size, 0, none⟩ 1 1 [.int .u8 10] (by rfl) (by rfl) (World.news_of_block (cs := #[.int .u8 10]) (t := 5) (fr := (0, 0)) (heap_alloc_new'' _ _ (by simp))) (by simp [Value.oneCell']) (by omega) (by unfold maxLen; omega) (by omega) (by have := HT.out.fr.size; have := HFW.out.size; simp; omega) (W.heap.size + 1) (by simp) ?_; intro gg cap3 w3 hown3 hgrow hat hlt3; have HO3 := Lib.hid hown3; have HG3 := Lib.hid hgrow; clear hown3 hgrow hat))
              go_roundg (s.size - (q + 1 + 1))
              case measure => omega
              case rel => exact ⟨q + 1 + 1, acc ++ [10], rfl, tx_one (x := 10) HT.out hb HST.out (by omega) (by omega) HRW.out HFW.out HG3.out HO3.out⟩
            have m110 : ((e.toNat : Int) == 110) = false := byte_ne' (k := 110) he110
            by_cases he114 : e = 114
            · subst he114
              have HST : Hid (strStep (s.data.toList.drop q) = .more [13] (s.data.toList.drop (q + 1 + 1))) := Lib.hid (by rw [HDR.out, HDR2.out]; rfl)
              as_aux_lemma =>
              go_wp2_with (first | (at_builtin; refine wpList_append_lies _ (by rfl) _ _ _ (by rfl) w.heap.size 5 i0 _ 1 1 Tryz.underlying31 hi0 hz0 hz1 hz2 rfl (by omega) u4 acc.length (Lib.byteCells acc) (by rfl) ((own_fr HT.out.own HFW.out hb).alloc _) ⟨W.heap.size, 0, none⟩ 1 1 [.int .u8 13] (by rfl) (by rfl) (World.news_of_block (cs := #[.int .u8 13]) (t := 5) (fr := (0, 0)) (heap_alloc_new'' _ _ (by simp))) (by simp [Value.oneCell']) (by omega) (by unfold maxLen; omega) (by omega) (by have := HT.out.fr.size; have := HFW.out.size; simp; omega) (W.heap.size + 1) (by simp) ?_; intro gg cap3 w3 hown3 hgrow hat hlt3; have HO3 := Lib.hid hown3; have HG3 := Lib.hid hgrow; clear hown3 hgrow hat))
              go_roundg (s.size - (q + 1 + 1))
              case measure => omega
              case rel => exact ⟨q + 1 + 1, acc ++ [13], rfl, tx_one (x := 13) HT.out hb HST.out (by omega) (by omega) HRW.out HFW.out HG3.out HO3.out⟩
            have m114 : ((e.toNat : Int) == 114) = false := byte_ne' (k := 114) he114
            by_cases he116 : e = 116
            · subst he116
              have HST : Hid (strStep (s.data.toList.drop q) = .more [9] (s.data.toList.drop (q + 1 + 1))) := Lib.hid (by rw [HDR.out, HDR2.out]; rfl)
              as_aux_lemma =>
              go_wp2_with (first | (at_builtin; refine wpList_append_lies _ (by rfl) _ _ _ (by rfl) w.heap.size 5 i0 _ 1 1 Tryz.underlying31 hi0 hz0 hz1 hz2 rfl (by omega) u4 acc.length (Lib.byteCells acc) (by rfl) ((own_fr HT.out.own HFW.out hb).alloc _) ⟨W.heap.size, 0, none⟩ 1 1 [.int .u8 9] (by rfl) (by rfl) (World.news_of_block (cs := #[.int .u8 9]) (t := 5) (fr := (0, 0)) (heap_alloc_new'' _ _ (by simp))) (by simp [Value.oneCell']) (by omega) (by unfold maxLen; omega) (by omega) (by have := HT.out.fr.size; have := HFW.out.size; simp; omega) (W.heap.size + 1) (by simp) ?_; intro gg cap3 w3 hown3 hgrow hat hlt3; have HO3 := Lib.hid hown3; have HG3 := Lib.hid hgrow; clear hown3 hgrow hat))
              go_roundg (s.size - (q + 1 + 1))
              case measure => omega
              case rel => exact ⟨q + 1 + 1, acc ++ [9], rfl, tx_one (x := 9) HT.out hb HST.out (by omega) (by omega) HRW.out HFW.out HG3.out HO3.out⟩
            have m116 : ((e.toNat : Int) == 116) = false := byte_ne' (k := 116) he116
            by_cases he117 : e = 117
            · subst he117
              clear m34 m92 m47 m98 m102 m110 m114 m116
              rcases unit_cases s (q + 1 + 1) with ⟨n, hn4, hx⟩ | hx
              · have HX := Lib.hid hx
                clear hx
                by_cases hA : n < 55296 ∨ 57344 ≤ n
                · have hn6 : n < 65536 := by
                    obtain ⟨a, bb, cc, d, _, h2⟩ := four_at hn4 HX.out
                    exact u4_lt h2
                  have hes := enc_size n (by omega)
                  have HST : Hid (strAll (acc ++ (Utf8.encode (n : Int)).data.toList) (s.data.toList.drop (q + 1 + 1 + 4)) = E) := Lib.hid (by
                    rw [enc_rune n (by omega)]
                    refine (strAll_more ?_).symm.trans HT.out.run
                    rw [HDR.out, HDR2.out]
                    exact strU_one hn4 HX.out hA)
                  rcases hA with hA | hA
                  · have hA2 : decide ((55296 : Int) ≤ (n : Nat)) = false := decide_eq_false (by omega)
                    as_aux_lemma =>
                    go_wp2_with (first | (go_at_call 44; refine (unit_ok HRW.out hl hn4 HX.out).mono ?_; rintro e2 w1 ⟨rfl, _, hR2, hF2⟩; obtain ⟨d0, d1, d2, df⟩ := cell3 hR2; have HR2 := Lib.hid hR2; have HF2 := Lib.hid (HFW.out.trans hF2); clear hR2 hF2))
                    go_quiet (fail)
                    go_wp2_with (first | (at_builtin; refine Lib.wpList_append_own_string _ rfl (.tmp 247) (.tmp 250) 31 9 rfl w.heap.size 5 i0 Tryz.underlying31 Tryz.underlying9 hi0 hz0 hz1 hz2 u4 acc.length (Lib.byteCells acc) rfl (own_fr HT.out.own (fb_n HF2.out _) hb) (Utf8.encode (n : Nat)) rfl (by unfold maxLen; omega) (by omega) (Nat.le_trans HT.out.fr.size HF2.out.size) ?_; intro v3 w3 hown3 hgrow hiff3; have HO3 := Lib.hid hown3; have HG3 := Lib.hid hgrow; clear hown3 hgrow hiff3))
                    go_roundg (s.size - (q + 1 + 1 + 4))
                    case measure => omega
                    case rel => exact ⟨q + 1 + 1 + 4, _, rfl, tx_more HT.out hb HST.out (by omega) (by omega) (HR2.out.drewN _) (fb_n HF2.out _) HG3.out HO3.out⟩
                  · have hA2 : decide ((55296 : Int) ≤ (n : Nat)) = true := decide_eq_true (by omega)
                    have hA3 : decide (((n : Nat) : Int) < 56320) = false := decide_eq_false (by omega)
                    have hA4 : decide (((n : Nat) : Int) < 57344) = false := decide_eq_false (by omega)
                    as_aux_lemma =>
                    go_wp2_with (first | (go_at_call 44; refine (unit_ok HRW.out hl hn4 HX.out).mono ?_; rintro e2 w1 ⟨rfl, _, hR2, hF2⟩; obtain ⟨d0, d1, d2, df⟩ := cell3 hR2; have HR2 := Lib.hid hR2; have HF2 := Lib.hid (HFW.out.trans hF2); clear hR2 hF2))
                    go_quiet (fail)
                    go_wp2_with (first | (at_builtin; refine Lib.wpList_append_own_string _ rfl (.tmp 247) (.tmp 250) 31 9 rfl w.heap.size 5 i0 Tryz.underlying31 Tryz.underlying9 hi0 hz0 hz1 hz2 u4 acc.length (Lib.byteCells acc) rfl (own_fr HT.out.own (fb_n HF2.out _) hb) (Utf8.encode (n : Nat)) rfl (by unfold maxLen; omega) (by omega) (Nat.le_trans HT.out.fr.size HF2.out.size) ?_; intro v3 w3 hown3 hgrow hiff3; have HO3 := Lib.hid hown3; have HG3 := Lib.hid hgrow; clear hown3 hgrow hiff3))
                    go_roundg (s.size - (q + 1 + 1 + 4))
                    case measure => omega
                    case rel => exact ⟨q + 1 + 1 + 4, _, rfl, tx_more HT.out hb HST.out (by omega) (by omega) (HR2.out.drewN _) (fb_n HF2.out _) HG3.out HO3.out⟩
                · have hB1 : decide ((55296 : Int) ≤ (n : Nat)) = true := decide_eq_true (by omega)
                  have hB3 : decide (((n : Nat) : Int) < 57344) = true := decide_eq_true (by omega)
                  obtain ⟨p2, hp2⟩ : ∃ p2, p2 = q + 1 + 1 + 4 := ⟨_, rfl⟩
                  have HPP := Lib.hid hp2
                  have hpp : p2 ≤ s.size := by omega
                  clear hp2
                  by_cases hlow : n < 56320
                  · have hB2 : decide (((n : Nat) : Int) < 56320) = true := decide_eq_true (by omega)
                    by_cases hp1 : p2 + 1 < s.size
                    · have hp1i : decide ((p2 : Int) + 1 < (s.size : Nat)) = true := decide_eq_true (by omega)
                      have htb := two_bytes hp1
                      obtain ⟨P2, hP2⟩ : ∃ P2, P2 = p2 + 2 := ⟨_, rfl⟩
                      have hP2s : P2 ≤ s.size := by omega
                      have hP2p : p2 ≤ P2 := by omega
                      obtain ⟨sub, hsub⟩ : ∃ sub, s.extract p2 P2 = sub := ⟨_, rfl⟩
                      have hsl : ∀ W, (Instr.slice 9 (.string s) (some (.int .i64 (p2 : Nat))) (some (.int .i64 ((p2 : Int) + 2))) none).run Tryz.prog W = .ok (.string sub) W := fun W => by rw [← hsub, show ((p2 : Int) + 2) = (P2 : Nat) by omega]; exact run_sub s p2 P2 hP2p hP2s W
                      have HP2 := Lib.hid hP2
                      rw [← hP2, hsub] at htb
                      clear hsub
                      obtain ⟨x1, hx1⟩ : ∃ x1, s[p2]'(by omega) = x1 := ⟨_, rfl⟩
                      obtain ⟨x2, hx2⟩ : ∃ x2, s[p2 + 1]'hp1 = x2 := ⟨_, rfl⟩
                      have HD1 : Hid (s.data.toList.drop p2 = x1 :: x2 :: s.data.toList.drop (p2 + 1 + 1)) := Lib.hid (by
                        rw [str_drop s p2 (by omega), str_drop s (p2 + 1) hp1, hx1, hx2])
                      rw [hx1, hx2] at htb
                      clear hx1 hx2
                      by_cases hbu : x1 = 92 ∧ x2 = 117
                      · obtain ⟨rfl, rfl⟩ := hbu
                        have hcmp2 : (sub.toList == [92, 117]) = true := by rw [htb]; decide
                        have hp22 : P2 ≤ s.size := hP2s
                        clear hP2
                        clear htb
                        rcases unit_cases s (P2) with ⟨m, hm4, hy⟩ | hy
                        · have HY := Lib.hid hy
                          clear hy
                          have U2 := True.intro
                          by_cases hm1 : 56320 ≤ m ∧ m < 57344
                          · obtain ⟨hm1, hm2⟩ := hm1
                            obtain ⟨N, hN⟩ : ∃ N, N = (n - 55296) * 1024 + (m - 56320) + 65536 := ⟨_, rfl⟩
                            have hNi : (65536 : Int) + ((n : Int) - 55296) * 1024 + ((m : Int) - 56320) = (N : Nat) := by omega
                            have hNv : 57344 ≤ N ∧ N < 1114112 := by omega
                            have hes := enc_size N (.inr hNv)
                            have hmi1 : decide ((56320 : Int) ≤ (m : Nat)) = true := decide_eq_true (by omega)
                            have hmi2 : decide (((m : Nat) : Int) < 57344) = true := decide_eq_true (by omega)
                            have HST : Hid (strAll (acc ++ (Utf8.encode (N : Int)).data.toList) (s.data.toList.drop (P2 + 4)) = E) := Lib.hid (by
                              rw [enc_rune N (.inr hNv)]
                              refine (strAll_more ?_).symm.trans HT.out.run
                              rw [HDR.out, HDR2.out, hN]
                              have hq2 := HP2.out
                              subst hq2
                              have hq := HPP.out
                              subst hq
                              exact strU_two (by omega) HX.out (by omega) hlow HD1.out HY.out hm1 hm2)
                            have hNl : q + 8 ≤ P2 := by have := HPP.out; have := HP2.out; omega
                            clear hN hNv hlow hm1 hm2 U2
                            as_aux_lemma =>
                            go_wp2_with (first | (go_at_call 44; refine (unit_ok HRW.out hl hn4 HX.out).mono ?_; rintro e2 w1 ⟨rfl, _, hR2, hF2⟩; rw [← HPP.out] at hR2; obtain ⟨d0, d1, d2, df⟩ := cell3 hR2; have HR2 := Lib.hid hR2; have HF2 := Lib.hid (HFW.out.trans hF2); clear hR2 hF2))
                            go_quiet (fail)
                            clear hsl hcmp2 hp1i
                            go_wp2_with (first | (go_at_call 44; refine (unit_ok ((HR2.out.drewN _).goI P2 (by have := HP2.out; omega)) hl hm4 HY.out).mono ?_; rintro e3 w2 ⟨rfl, _, hR4, hF4⟩; have HR4 := Lib.hid hR4; have HF4 := Lib.hid ((fb_set (fb_n HF2.out _) _ _).trans hF4); clear hR4 hF4) | (at_builtin; refine Lib.wpList_append_own_string _ rfl (.tmp 247) (.tmp 250) 31 9 rfl w.heap.size 5 i0 Tryz.underlying31 Tryz.underlying9 hi0 hz0 hz1 hz2 u4 acc.length (Lib.byteCells acc) rfl (own_fr HT.out.own HF4.out hb) (Utf8.encode (N : Nat)) rfl (by unfold maxLen; omega) (by omega) (by have := HT.out.fr.size; have := Fr.size (HF4.out); omega) ?_; intro v3 w3 hown3 hgrow hiff3; have HO3 := Lib.hid hown3; have HG3 := Lib.hid hgrow; clear hown3 hgrow hiff3))
                            go_roundg (s.size - (P2 + 4))
                            case measure => omega
                            case rel => exact ⟨P2 + 4, _, rfl, tx_more HT.out hb HST.out (by omega) (by omega) HR4.out HF4.out HG3.out HO3.out⟩
                          · by_cases hm2 : 56320 ≤ m
                            · have hmi1 : decide ((56320 : Int) ≤ (m : Nat)) = true := decide_eq_true (by omega)
                              have hmi2 : decide (((m : Nat) : Int) < 57344) = false := decide_eq_false (by omega)
                              clear hm1 U2
                              as_aux_lemma =>
                              go_wp2_with (first | (go_at_call 44; refine (unit_ok HRW.out hl hn4 HX.out).mono ?_; rintro e2 w1 ⟨rfl, _, hR2, hF2⟩; rw [← HPP.out] at hR2; obtain ⟨d0, d1, d2, df⟩ := cell3 hR2; have HR2 := Lib.hid hR2; have HF2 := Lib.hid (HFW.out.trans hF2); clear hR2 hF2))
                              go_quiet (fail)
                              clear hsl hcmp2 hp1i
                              go_wp2_with (first | (go_at_call 44; refine (unit_ok ((HR2.out.drewN _).goI P2 (by have := HP2.out; omega)) hl hm4 HY.out).mono ?_; rintro e3 w2 ⟨rfl, hm65, hR4, hF4⟩; obtain ⟨g0, g1, g2, gf⟩ := cell3 hR4; have HR4 := Lib.hid hR4; have HF4 := Lib.hid ((fb_set (fb_n HF2.out _) _ _).trans hF4); clear hR4 hF4))
                              go_ret2
                              exact text_far hm4 HR4.out.setFar (fb_set (HT.out.fr.trans HF4.out) _ _)
                            · have hmi1 : decide ((56320 : Int) ≤ (m : Nat)) = false := decide_eq_false (by omega)
                              clear hm1 U2
                              as_aux_lemma =>
                              go_wp2_with (first | (go_at_call 44; refine (unit_ok HRW.out hl hn4 HX.out).mono ?_; rintro e2 w1 ⟨rfl, _, hR2, hF2⟩; rw [← HPP.out] at hR2; obtain ⟨d0, d1, d2, df⟩ := cell3 hR2; have HR2 := Lib.hid hR2; have HF2 := Lib.hid (HFW.out.trans hF2); clear hR2 hF2))
                              go_quiet (fail)
                              clear hsl hcmp2 hp1i
                              go_wp2_with (first | (go_at_call 44; refine (unit_ok ((HR2.out.drewN _).goI P2 (by have := HP2.out; omega)) hl hm4 HY.out).mono ?_; rintro e3 w2 ⟨rfl, hm65, hR4, hF4⟩; obtain ⟨g0, g1, g2, gf⟩ := cell3 hR4; have HR4 := Lib.hid hR4; have HF4 := Lib.hid ((fb_set (fb_n HF2.out _) _ _).trans hF4); clear hR4 hF4))
                              go_ret2
                              exact text_far hm4 HR4.out.setFar (fb_set (HT.out.fr.trans HF4.out) _ _)
                        · have HY := Lib.hid hy
                          clear hy
                          as_aux_lemma =>
                          go_wp2_with (first | (go_at_call 44; refine (unit_ok HRW.out hl hn4 HX.out).mono ?_; rintro e2 w1 ⟨rfl, _, hR2, hF2⟩; rw [← HPP.out] at hR2; obtain ⟨d0, d1, d2, df⟩ := cell3 hR2; have HR2 := Lib.hid hR2; have HF2 := Lib.hid (HFW.out.trans hF2); clear hR2 hF2))
                          go_quiet (fail)
                          clear hsl hcmp2 hp1i
                          go_wp2_with (first | (go_at_call 44; refine (unit_no ((HR2.out.drewN _).goI P2 (by have := HP2.out; omega)) hl hp22 HY.out).mono ?_; rintro e3 w2 ⟨rfl, q4, hq4, hR4, hF4⟩; obtain ⟨g0, g1, g2, gf⟩ := cell3 hR4; have HR4 := Lib.hid hR4; have HF4 := Lib.hid ((fb_set (fb_n HF2.out _) _ _).trans hF4); clear hR4 hF4))
                          go_ret2
                          exact text_far hq4 HR4.out.setFar (fb_set (HT.out.fr.trans HF4.out) _ _)
                      · have hcmp2 : (sub.toList == [92, 117]) = false := by
                          rw [htb, Bool.eq_false_iff]
                          intro he
                          rw [beq_iff_eq] at he
                          injection he with h1 h2
                          injection h2 with h2 _
                          exact hbu ⟨h1, h2⟩
                        clear htb hbu
                        as_aux_lemma =>
                        go_wp2_with (first | (go_at_call 44; refine (unit_ok HRW.out hl hn4 HX.out).mono ?_; rintro e2 w1 ⟨rfl, _, hR2, hF2⟩; rw [← HPP.out] at hR2; obtain ⟨d0, d1, d2, df⟩ := cell3 hR2; have HR2 := Lib.hid hR2; have HF2 := Lib.hid (HFW.out.trans hF2); clear hR2 hF2))
                        go_quiet (fail)
                        clear hsl hcmp2 hp1i
                        go_wp2
                        go_ret2
                        exact text_far hpp (HR2.out.drewN _).setFar (fb_set (fb_n (HT.out.fr.trans HF2.out) _) _ _)
                    · have hp1i : decide ((p2 : Int) + 1 < (s.size : Nat)) = false := decide_eq_false (by omega)
                      as_aux_lemma =>
                      go_wp2_with (first | (go_at_call 44; refine (unit_ok HRW.out hl hn4 HX.out).mono ?_; rintro e2 w1 ⟨rfl, _, hR2, hF2⟩; rw [← HPP.out] at hR2; obtain ⟨d0, d1, d2, df⟩ := cell3 hR2; have HR2 := Lib.hid hR2; have HF2 := Lib.hid (HFW.out.trans hF2); clear hR2 hF2))
                      go_quiet (fail)
                      go_wp2
                      go_ret2
                      exact text_far hpp (HR2.out.drewN _).setFar (fb_set (fb_n (HT.out.fr.trans HF2.out) _) _ _)
                  · have hB2 : decide (((n : Nat) : Int) < 56320) = false := decide_eq_false (by omega)
                    as_aux_lemma =>
                    go_wp2_with (first | (go_at_call 44; refine (unit_ok HRW.out hl hn4 HX.out).mono ?_; rintro e2 w1 ⟨rfl, _, hR2, hF2⟩; rw [← HPP.out] at hR2; obtain ⟨d0, d1, d2, df⟩ := cell3 hR2; have HR2 := Lib.hid hR2; have HF2 := Lib.hid (HFW.out.trans hF2); clear hR2 hF2))
                    go_quiet (fail)
                    go_wp2
                    go_ret2
                    exact text_far hpp (HR2.out.drewN _).setFar (fb_set (fb_n (HT.out.fr.trans HF2.out) _) _ _)
              · have HX := Lib.hid hx
                clear hx
                as_aux_lemma =>
                go_wp2_with (first | (go_at_call 44; refine (unit_no HRW.out hl hpq HX.out).mono ?_; rintro e2 w1 ⟨rfl, q', hq', hR2, hF2⟩; obtain ⟨d0, d1, d2, df⟩ := cell3 hR2; have HR2 := Lib.hid hR2; have HF2 := Lib.hid (HFW.out.trans hF2); clear hR2 hF2))
                go_quiet (fail)
                go_wp2
                go_ret2
                exact text_far hq' (HR2.out.drewN _).setFar (fb_set (fb_n (HT.out.fr.trans HF2.out) _) _ _)
            have m117 : ((e.toNat : Int) == 117) = false := byte_ne' (k := 117) he117
            have HE : Hid (E = .err) := Lib.hid (by
              rw [← HT.out.run]
              refine strAll_err ?_
              rw [HDR.out, HDR2.out]
              simp [strStep, unesc, he34, he92, he47, he98, he102, he110, he114, he116, he117])
            clear he34 he92 he47 he98 he102 he110 he114 he116 he117
            as_aux_lemma =>
            go_wp2
            go_ret2
            refine ⟨_, false, false, q + 1 + 1, rfl, hpq, HRW.out, HT.out.fr.trans HFW.out, (fun h => by cases h), fun _ => ?_⟩
            rw [HE.out]
            rfl
          · have HE : Hid (E = .err) := Lib.hid (by
              rw [← HT.out.run]
              refine strAll_err ?_
              rw [HDR.out, List.drop_of_length_le (by show s.size ≤ q + 1; omega)]
              rfl)
            have hge : s.size ≤ q + 1 := by omega
            have hqe : s.size = q + 1 := by omega
            as_aux_lemma =>
            have HQ := Lib.hid hqe
            clear hqe
            go_wp2
            go_quiet (fail)
            go_wp2
            go_quiet (fail)
            go_wp2
            go_quiet (fail)
            go_wp2
            go_ret2
            refine ⟨_, false, false, q + 1, rfl, by have := HQ.out; omega, ?_, ?_, (fun h => by cases h), fun _ => ?_⟩
            · repeat (first | exact HT.out.rd | refine RdAt.drewN ?_ _ | refine RdAt.go (q := q) ?_ (q + 1))
            · exact HT.out.fr.trans (by repeat (first | exact fb_refl _ _ | refine fb_set ?_ _ _ | refine fb_n ?_ _))
            · rw [HE.out]
              rfl
        · have n92 : ((c.toNat : Int) != 92) = true := by
            simp only [bne_iff_ne, ne_eq]
            intro he
            exact h92 (UInt8.toNat_inj.1 (show c.toNat = 92 by omega))
          have hxs : (s.extract q s.size).size = s.size - q := by simp [ByteArray.size_extract]
          have HX0 := Lib.hid (show 0 < (s.extract q s.size).size by omega)
          have HX1 := Lib.hid (show (s.extract q s.size).size ≤ 1000000 by omega)
          have HXS := Lib.hid hxs
          have HC := Lib.hid hc
          clear hxs
          go_wp2
          go_quiet (fail)
          go_wp2
          go_quiet (fail)
          go_upto_region 9 with fail
          go_cut [6, 7] (fun v6 v7 wx => Aside (RunK (s.extract q s.size) wr v6 v7 wx))
          case first =>
            as_aux_lemma =>
            go_region_held3 (fun w' => w'.cell? ⟨b, 0, none⟩ = some (.string s) ∧ w'.cell? ⟨b, 1, none⟩ = some (.int .i64 (q : Nat))) (first | exact ⟨c0, c1⟩) (first | (go_at_call 36; refine (rune (s.extract q s.size) HX0.out HX1.out _).mono ?_; rintro e2 w1 ⟨n, cc, hn, rfl, rfl⟩; have HNN := Lib.hid hn; clear hn))
            all_goals first | go_meet | (go_wp2; go_meet)
            all_goals exact runK_mk HNN.out _
          case rest =>
            as_aux_lemma =>
            obtain ⟨n, cc, hn, rfl, rfl, m9, rfl⟩ := hcut.out
            have HNN := Lib.hid hn
            clear hn hcut
            rcases HNN.out with hz | ⟨k, hk, hk1, hk2, hall⟩
            · subst hz
              go_wp2
              go_ret2
              exact text_far hqs (RdAt.setFar (by repeat (first | exact HT.out.rd | refine RdAt.drewN ?_ _)))  (HT.out.fr.trans (by repeat (first | exact fb_refl _ _ | refine fb_set ?_ _ _ | refine fb_n ?_ _)))
            · subst hk
              have hks : q + k ≤ s.size := by have := HXS.out; omega
              have n0 : ((k : Int) == 0) = false := by simp only [beq_eq_false_iff_ne, ne_eq]; omega
              obtain ⟨p, hp⟩ : ∃ p, p = q + k := ⟨_, rfl⟩
              have HP := Lib.hid hp
              have hps : p ≤ s.size := by omega
              have hqp : q ≤ p := by omega
              have hqpi : (q : Int) ≤ (p : Nat) := by omega
              have hpsi : (p : Int) ≤ (s.size : Nat) := by omega
              have hwr : IntKind.i64.wrap ((q : Int) + (k : Nat)) = (p : Nat) := by rw [hp]; exact IntWalk.i64_in _ (by omega)
              have hts : (s.extract q p).size = k := by rw [hp]; simp [ByteArray.size_extract]; omega
              have htl : (s.extract q p).data.toList = (s.data.toList.drop q).take k := by
                rw [Lib.extract_data, hp]
                congr 1
                omega
              have HST : Hid (strAll (acc ++ (s.extract q p).data.toList) (s.data.toList.drop p) = E) := Lib.hid (by
                rw [htl, ← HT.out.run, hp, strAll_plains k acc (s.data.toList.drop q) (by rw [str_drop_len]; omega) (rune_plain hlt HC.out h34 h92 hks hall), List.drop_drop])
              have HTS := Lib.hid hts
              clear hts htl hall hk2 hp hks
              go_wp2
              go_region_held3 (fun w' => w'.cell? ⟨b, 0, none⟩ = some (.string s) ∧ w'.cell? ⟨b, 1, none⟩ = some (.int .i64 (q : Nat))) (first | exact ⟨c0, c1⟩ | exact ⟨(cell3 HR3.out).1, (cell3 HR3.out).2.1⟩) (first | (refine step_append_string rfl (.tmp 70) (.tmp 85) 31 9 rfl w.heap.size 5 i0 Tryz.underlying31 Tryz.underlying9 hi0 hz0 hz1 hz2 u4 acc.length (Lib.byteCells acc) rfl (own_fr HT.out.own (by repeat (first | exact fb_refl _ _ | refine fb_set ?_ _ _ | refine fb_n ?_ _)) hb) (s.extract q p) rfl (by rw [HTS.out]; unfold maxLen; have := HP.out; omega) (by rw [HTS.out]; have := HP.out; omega) (by have := HT.out.fr.size; simp; omega) ?_; intro v3 w3 hown3 hgrow3; have HR3 : Hid (RdAt b s q false w3) := Lib.hid (rd_grown (by repeat (first | exact HT.out.rd | refine RdAt.drewN ?_ _)) hgrow3 (fun k hk => (HT.out.own.lt k hk).1) hb)))
              all_goals
                have HF3 : Hid (Fb1 b w w3) := Lib.hid (by
                  refine fr_grown (HT.out.fr.trans ?_) hgrow3 (Nat.le_refl _) (fun k hk => (HT.out.own.lt k hk).1)
                  repeat (first | exact fb_refl _ _ | refine fb_n ?_ _))
                have HO3 := Lib.hid hown3
                clear hown3 hgrow3 c0 c1 c2 cf
                obtain ⟨c0, c1, c2, cf⟩ := cell3 HR3.out
                go_wp2
                go_roundg (s.size - p)
                case measure => have := HP.out; omega
                case rel => exact ⟨p, _, rfl, tx_far HT.out hb HST.out hps (by rw [HTS.out]; have := HP.out; omega) HR3.out HF3.out HO3.out⟩
    · obtain rfl : q = s.size := by omega
      have HE : Hid (E = .err) := Lib.hid (by rw [← HT.out.run, drop_end]; rfl)
      as_aux_lemma =>
      go_wp2
      go_quiet (fail)
      go_wp2
      go_ret2
      refine ⟨_, false, false, s.size, rfl, by omega, HT.out.rd.drewN _, HT.out.fr.drewN _, (fun h => by cases h), fun _ => ?_⟩
      rw [HE.out]
      rfl

end Go.Proofs.YtdabllkphibfmaaGreatDoor
