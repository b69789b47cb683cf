/- decimal.set, plain: what a number's text makes of a decimal. -/
import Derived.Test.YtdabllkphibfmaaGreatDoorHc
import Derived.Deep.CutBlock
import Derived.Deep.RegionHeld
import Derived.Lib.IndexBytes
import Derived.Test.YtdabllkphibfmaaGreatDoorAnyT
import Derived.Test.YtdabllkphibfmaaGreatDoorFloP
namespace Go.Proofs.YtdabllkphibfmaaGreatDoor
open Go Go.RowKit
set_option linter.unusedVariables false

/-- A decimal under way: whether there was a point, whether digits. -/
structure DS where
  S : Dec
  dot : Bool
  dig : Bool

def DS.zero (neg : Bool) : DS := ⟨{ d := fun _ => 0, nd := 0, dp := 0, neg := neg, tr := false }, false, false⟩

def Dec.add (S : Dec) (c : UInt8) : Dec :=
  if c = 48 ∧ S.nd = 0 then { S with dp := S.dp - 1 }
  else if S.nd < 800 then { S with d := upd S.d S.nd c.toNat, nd := S.nd + 1 }
  else if c = 48 then S else { S with tr := true }

def DS.digit (s : DS) (c : UInt8) : DS := { s with S := s.S.add c, dig := true }

def dsDigits : DS → List UInt8 → DS × List UInt8
  | s, [] => (s, [])
  | s, c :: r =>
    if c = 46 then if s.dot then (s, c :: r) else dsDigits { s with dot := true, S := { s.S with dp := s.S.nd } } r
    else if isDig c then dsDigits (s.digit c) r
    else (s, c :: r)

/-- Both stop at one place, and agree on the point and on the digits. -/
theorem ds_rf : ∀ (l : List UInt8) (s : DS) (t : RS), s.dot = t.dot → s.dig = t.dig → (dsDigits s l).2 = (rfDigits t l).2 ∧ (dsDigits s l).1.dot = (rfDigits t l).1.dot ∧ (dsDigits s l).1.dig = (rfDigits t l).1.dig
  | [], s, t, h1, h2 => ⟨rfl, h1, h2⟩
  | c :: r, s, t, h1, h2 => by
    rw [dsDigits, rfDigits]
    split
    · cases ht : t.dot with
      | true => rw [if_pos (h1.trans ht), if_pos rfl]; exact ⟨rfl, h1, h2⟩
      | false =>
        rw [if_neg (by rw [h1, ht]; decide), if_neg (by decide)]
        exact ds_rf r _ _ rfl h2
    · split
      · refine ds_rf r _ _ ?_ ?_
        · unfold RS.digit DS.digit
          split
          · exact h1
          · split <;> exact h1
        · unfold RS.digit DS.digit
          split
          · rfl
          · split <;> rfl
      · exact ⟨rfl, h1, h2⟩

/-- What bounds a decimal under way. -/
structure DSOk (s : DS) (i : Nat) : Prop where
  n8 : s.S.nd ≤ 800
  ni : s.S.nd ≤ i
  dp1 : -(i : Int) ≤ s.S.dp
  dp2 : s.S.dp ≤ i
  dig : DigOk s.S.d s.S.nd
  d0 : s.S.nd ≠ 0 → s.S.d 0 ≠ 48

theorem DSOk.start (neg : Bool) : DSOk (DS.zero neg) 0 := ⟨by simp [DS.zero], by simp [DS.zero], by simp [DS.zero], by simp [DS.zero], fun i hi => absurd hi (by simp [DS.zero]), fun h => absurd rfl h⟩

theorem DSOk.later {s : DS} {i : Nat} (h : DSOk s i) (k : Nat) : DSOk s (i + k) := ⟨h.n8, by have := h.ni; omega, by have := h.dp1; omega, by have := h.dp2; omega, h.dig, h.d0⟩

theorem DSOk.pt {s : DS} {i : Nat} (h : DSOk s i) : DSOk { s with dot := true, S := { s.S with dp := s.S.nd } } (i + 1) := by
  have := h.ni
  exact ⟨h.n8, by simp only; omega, by simp only; omega, by simp only; omega, h.dig, h.d0⟩

theorem DSOk.digit {s : DS} {i : Nat} (h : DSOk s i) (c : UInt8) (hc : isDig c = true) : DSOk (s.digit c) (i + 1) := by
  obtain ⟨h1, h2, h3, h4, h5, h6⟩ := h
  have hc2 : 48 ≤ c.toNat ∧ c.toNat ≤ 57 := of_decide_eq_true hc
  unfold DS.digit Dec.add
  split
  · rename_i hz
    exact ⟨h1, by simp only; omega, by simp only; omega, by simp only; omega, h5, h6⟩
  · rename_i hz
    split
    · rename_i hn
      refine ⟨by simp only; omega, by simp only; omega, by simp only; omega, by simp only; omega, ?_, ?_⟩
      · intro j hj
        simp only [upd] at hj ⊢
        split
        · exact hc2
        · exact h5 j (by omega)
      · intro _
        simp only [upd]
        split
        · rename_i h0
          intro h48
          exact hz ⟨by rw [← UInt8.toNat_inj]; exact h48, by omega⟩
        · exact h6 (by omega)
    · split
      · exact ⟨h1, by simp only; omega, by simp only; omega, by simp only; omega, h5, h6⟩
      · exact ⟨h1, by simp only; omega, by simp only; omega, by simp only; omega, h5, h6⟩

def DS.point (s : DS) : Int := if s.dot then s.S.dp else s.S.nd

/-- The decimal of a number's text, its sign and exponent known. -/
def setF (neg : Bool) (x : Int) (l : List UInt8) : Dec :=
  { (dsDigits (DS.zero neg) l).1.S with dp := (dsDigits (DS.zero neg) l).1.point + x }

end Go.Proofs.YtdabllkphibfmaaGreatDoor

/- decimal.set, walked. -/
namespace Go.Proofs.YtdabllkphibfmaaGreatDoor
open Go Go.RowKit
set_option linter.unusedSimpArgs false
set_option linter.unusedVariables false

theorem DSOk.of_eq {s : DS} {i j : Nat} (h : DSOk s i) (e : i = j) : DSOk s j := e ▸ h

theorem dsD_dot {s : DS} {r : List UInt8} {fin : DS × List UInt8} (h : dsDigits s (46 :: r) = fin) : (s.dot = true → fin = (s, 46 :: r)) ∧ (s.dot = false → dsDigits { s with dot := true, S := { s.S with dp := s.S.nd } } r = fin) := by
  rw [dsDigits, if_pos rfl] at h
  refine ⟨fun hd => ?_, fun hd => ?_⟩
  · rw [if_pos hd] at h; exact h.symm
  · rw [if_neg (by rw [hd]; decide)] at h; exact h
theorem dsD_dig {s : DS} {c : UInt8} {r : List UInt8} {fin : DS × List UInt8} (h : dsDigits s (c :: r) = fin) (h1 : c ≠ 46) (h2 : isDig c = true) : dsDigits (s.digit c) r = fin := by
  rw [dsDigits, if_neg h1, if_pos h2] at h
  exact h
theorem dsD_end {s : DS} {c : UInt8} {r : List UInt8} {fin : DS × List UInt8} (h : dsDigits s (c :: r) = fin) (h1 : c ≠ 46) (h2 : isDig c = false) : fin = (s, c :: r) := by
  rw [dsDigits, if_neg h1, if_neg (by rw [h2]; decide)] at h
  exact h.symm

def SetPost (g : Nat) (S : Dec) (w : World) (e : Ending) (w' : World) : Prop := e = .returned (.bool true) ∧ DecAt g S w' ∧ Below g w w'

def DsEnd (g : Nat) (s : ByteArray) (fin : DS × List UInt8) (w : World) (v5 v6 v7 : Value) (wx : World) : Prop :=
  ∃ i : Nat, i ≤ s.size ∧ v5 = .int .i64 i ∧ v6 = .bool fin.1.dot ∧ v7 = .bool fin.1.dig ∧ fin.2 = s.data.toList.drop i ∧ DSOk fin.1 i ∧ DecAt g fin.1.S wx ∧ Below g w wx

def DsRel (g : Nat) (s : ByteArray) (fin : DS × List UInt8) (w : World) (n : Nat) (v5 v6 v7 : Value) (wx : World) : Prop :=
  ∃ (i : Nat) (ds : DS), n = s.size - i ∧ i ≤ s.size ∧ v5 = .int .i64 i ∧ v6 = .bool ds.dot ∧ v7 = .bool ds.dig ∧ dsDigits ds (s.data.toList.drop i) = fin ∧ DSOk ds i ∧ DecAt g ds.S wx ∧ Below g w wx

set_option maxRecDepth 1000000 in
set_option maxHeartbeats 40000000 in
theorem decSet (g : Nat) (s : ByteArray) (hal : ∀ c ∈ s.data.toList, isNumC c = true) (hl : s.size ≤ 1000000) (w : World) (k : Nat) (x : Int) (neg : Bool) (hn : 0 < s.size)
    (hk : k = if s[0]'hn = 45 then 1 else 0) (hneg : neg = decide (s[0]'hn = 45)) (h43 : s[0]'hn ≠ 43) (hdig : (dsDigits (DS.zero neg) (s.data.toList.drop k)).1.dig = true) (hx : rfTail (dsDigits (DS.zero neg) (s.data.toList.drop k)).2 = some x) (h : DecAt g (DS.zero false).S w) :
    Calls Tryz.prog 95 #[.pointer (some ⟨g, 0, none⟩), .string s] w (SetPost g (setF neg x (s.data.toList.drop k)) w) := by
  have hk1 : k ≤ 1 := by rw [hk]; split <;> omega
  obtain ⟨fin, hfin⟩ : ∃ fin, dsDigits (DS.zero neg) (s.data.toList.drop k) = fin := ⟨_, rfl⟩
  have hout : setF neg x (s.data.toList.drop k) = { fin.1.S with dp := fin.1.point + x } := by unfold setF; rw [hfin]
  rw [hfin] at hdig hx
  rw [hout]
  clear hout
  have hal2 : ∀ i (hi : i < s.size), isNumC (s[i]'hi) = true := fun i hi => hal _ (by
    have := str_drop s i hi
    exact List.mem_of_mem_drop (this ▸ List.mem_cons_self))
  obtain ⟨c0, hc0⟩ : ∃ c0, s[0]'hn = c0 := ⟨_, rfl⟩
  rw [hc0] at hk hneg h43
  have n43 : ((c0.toNat : Int) == 43) = false := byte_ne' h43
  have hse : decide (s = ByteArray.empty) = false := by
    refine decide_eq_false fun h => ?_
    rw [h] at hn
    exact absurd hn (by decide)
  have fr := h.facts.fr
  have f3 : w.cell? ⟨g, 802, none⟩ = some (.bool false) := h.facts.neg
  have f4 : w.cell? ⟨g, 803, none⟩ = some (.bool false) := h.facts.tr
  have H := Lib.hid h
  have HAL := Lib.hid hal2
  have HK := Lib.hid hk
  have HKN := Lib.hid hneg
  have HFIN := Lib.hid hfin
  have HDIG := Lib.hid hdig
  have HX := Lib.hid hx
  clear hal hal2 hk hneg hfin hdig hx h h43
  go_enter Tryz.func95, Tryz.ntmps95
  go_upto_block 0 with fail
  go_cut [5] (fun v5 wx => v5 = .int .i64 (k : Nat) ∧ DecAt g (DS.zero neg).S wx ∧ Below g w wx)
  case first =>
    as_aux_lemma =>
    have HW : Hid (DecAt g (DS.zero false).S ((w.setCell ⟨g, 802, none⟩ (.bool false)).setCell ⟨g, 803, none⟩ (.bool false)) ∧ Below g w ((w.setCell ⟨g, 802, none⟩ (.bool false)).setCell ⟨g, 803, none⟩ (.bool false))) := Lib.hid ⟨(H.out.setNeg false).setTr false, ((Below.refl g w).setCell (Nat.le_refl _) _).setCell (Nat.le_refl _) _⟩
    by_cases h45 : c0 = 45
    · have HN := Lib.hid (show neg = true by rw [HKN.out, h45]; rfl)
      have HK1 := Lib.hid (show k = 1 by rw [HK.out, h45]; rfl)
      subst h45
      go_wp2_with fail
      go_meet
      exact ⟨by rw [HK1.out]; rfl, by rw [HN.out]; exact HW.out.1.setNeg true, HW.out.2.setCell (Nat.le_refl _) _⟩
    · have HN := Lib.hid (show neg = false by rw [HKN.out]; simp [h45])
      have HK1 := Lib.hid (show k = 0 by rw [HK.out]; simp [h45])
      have n45 : ((c0.toNat : Int) == 45) = false := byte_ne' h45
      clear h45
      go_wp2_with fail
      go_meet
      exact ⟨by rw [HK1.out]; rfl, by rw [HN.out]; exact HW.out.1, HW.out.2⟩
  case rest =>
   as_aux_lemma =>
    obtain ⟨rfl, hD0, hB0⟩ := hcut
    have HD0 := Lib.hid hD0
    have HB0 := Lib.hid hB0
    clear hD0 hB0 f3 f4 fr
    go_upto_block 1 with fail
    go_cut [5, 6, 7] (fun v5 v6 v7 wx => Aside (DsEnd g s fin w v5 v6 v7 wx))
    case first =>
      as_aux_lemma =>
      go_wp2_with fail
      go_loopg [5, 6, 7] (s.size - k) (fun n v5 v6 v7 wx => Aside (DsRel g s fin w n v5 v6 v7 wx))
      case atStart => exact ⟨k, _, rfl, by omega, rfl, rfl, rfl, HFIN.out, ((DSOk.start neg).later k).of_eq (by omega), HD0.out, HB0.out⟩
      case round =>
        obtain ⟨i, ⟨⟨d, nd, dp, ng, tr⟩, dot, dig⟩, rfl, hi, rfl, rfl, rfl, hrun, hok, hD, hb⟩ := hrel.out
        clear hrel
        obtain ⟨f1, f2, f3, f4, f5, f6⟩ := hD.facts
        simp only at f1 f2 f3 f4 f6
        have hnd := hok.ni
        have hn8 := hok.n8
        have hdp1 := hok.dp1
        have hdp2 := hok.dp2
        simp only at hnd hn8 hdp1 hdp2
        have HD := Lib.hid hD
        have HB := Lib.hid hb
        have HF6 := Lib.hid f6
        clear hD hb f6 f3
        by_cases hlt : i < s.size
        · have hdrop := str_drop s i hlt
          have hnc := HAL.out i hlt
          obtain ⟨c, hc⟩ : ∃ c, s[i]'hlt = c := ⟨_, rfl⟩
          rw [hc] at hdrop hnc
          rw [hdrop] at hrun
          have n95 := (lower_num c hnc).2.2
          clear hnc
          by_cases h46 : c = 46
          · subst h46
            cases dot with
            | true =>
              exfalso
              have he := (dsD_dot hrun).1 rfl
              have hx := HX.out
              rw [he] at hx
              simp [rfTail, isExp] at hx
            | false =>
              as_aux_lemma =>
                have HRN := Lib.hid ((dsD_dot hrun).2 rfl)
                have HOK2 := Lib.hid hok.pt
                clear hdrop hrun hok
                go_wp2_with fail
                go_roundg (s.size - (i + 1))
                case measure => omega
                case rel => exact ⟨i + 1, _, rfl, by omega, rfl, rfl, rfl, HRN.out, HOK2.out, HD.out.setDp nd, HB.out.setCell (Nat.le_refl _) _⟩
          · have n46 : ((c.toNat : Int) == 46) = false := byte_ne' h46
            cases hdg : isDig c with
            | true =>
              have HRN := Lib.hid (dsD_dig hrun h46 hdg)
              have HOK2 := Lib.hid (hok.digit c hdg)
              have hd1 : (48 : Int) ≤ c.toNat := by have := dig_t hdg; omega
              have hd2 : (c.toNat : Int) ≤ 57 := by have := dig_t hdg; omega
              by_cases h48 : c = 48
              · subst h48
                by_cases hnd0 : nd = 0
                · subst hnd0
                  as_aux_lemma =>
                    have HX2 : Hid (DS.digit ⟨⟨d, 0, dp, ng, tr⟩, dot, dig⟩ 48 = ⟨⟨d, 0, dp - 1, ng, tr⟩, dot, true⟩) := Lib.hid (by unfold DS.digit Dec.add; rw [if_pos ⟨rfl, rfl⟩])
                    rw [HX2.out] at HRN HOK2
                    replace f1 : wr.cell? ⟨g, 800, none⟩ = some (.int .i64 0) := f1
                    clear HX2 hdrop hrun hok h46 hdg
                    go_wp2_with fail
                    go_roundg (s.size - (i + 1))
                    case measure => omega
                    case rel => exact ⟨i + 1, _, rfl, by omega, rfl, rfl, rfl, HRN.out, HOK2.out, HD.out.setDp (dp - 1), HB.out.setCell (Nat.le_refl _) _⟩
                · have nnd : ((nd : Int) == 0) = false := by simp only [beq_eq_false_iff_ne, ne_eq]; omega
                  by_cases hn800 : nd < 800
                  · have fd := HF6.out nd hn800
                    as_aux_lemma =>
                      have HX2 : Hid (DS.digit ⟨⟨d, nd, dp, ng, tr⟩, dot, dig⟩ 48 = ⟨⟨upd d nd 48, nd + 1, dp, ng, tr⟩, dot, true⟩) := Lib.hid (by unfold DS.digit Dec.add; rw [if_neg (fun h => hnd0 h.2), if_pos hn800]; rfl)
                      rw [HX2.out] at HRN HOK2
                      clear HX2 hdrop hrun hok h46 hdg
                      go_wp2_with fail
                      go_region_held (fun w' => w'.cell? ⟨g, 800, none⟩ = some (.int .i64 nd)) (first | exact (HD.out.put nd 48 hn800).facts.nd | go_keep) (fail)
                      go_wp2_with fail
                      go_roundg (s.size - (i + 1))
                      case measure => omega
                      case rel => exact ⟨i + 1, _, rfl, by omega, rfl, rfl, rfl, HRN.out, HOK2.out, (HD.out.put nd 48 hn800).setNd (nd + 1), below_nn ((HB.out.setCell (p := ⟨g, nd, none⟩) (Nat.le_refl g) _).setCell (p := ⟨g, 800, none⟩) (Nat.le_refl g) _) 1⟩
                  · as_aux_lemma =>
                      have HX2 : Hid (DS.digit ⟨⟨d, nd, dp, ng, tr⟩, dot, dig⟩ 48 = ⟨⟨d, nd, dp, ng, tr⟩, dot, true⟩) := Lib.hid (by unfold DS.digit Dec.add; rw [if_neg (fun h => hnd0 h.2), if_neg hn800, if_pos rfl])
                      rw [HX2.out] at HRN HOK2
                      clear HX2 hdrop hrun hok h46 hdg
                      go_wp2_with fail
                      go_roundg (s.size - (i + 1))
                      case measure => omega
                      case rel => exact ⟨i + 1, _, rfl, by omega, rfl, rfl, rfl, HRN.out, HOK2.out, HD.out, HB.out⟩
              · have n48 : ((c.toNat : Int) == 48) = false := byte_ne' h48
                have n48' : ((c.toNat : Int) != 48) = true := by simp only [bne, n48]; rfl
                by_cases hn800 : nd < 800
                · have fd := HF6.out nd hn800
                  as_aux_lemma =>
                    have HX2 : Hid (DS.digit ⟨⟨d, nd, dp, ng, tr⟩, dot, dig⟩ c = ⟨⟨upd d nd c.toNat, nd + 1, dp, ng, tr⟩, dot, true⟩) := Lib.hid (by unfold DS.digit Dec.add; rw [if_neg (fun h => h48 h.1), if_pos hn800])
                    rw [HX2.out] at HRN HOK2
                    clear HX2 hdrop hrun hok h46 hdg
                    go_wp2_with fail
                    go_region_held (fun w' => w'.cell? ⟨g, 800, none⟩ = some (.int .i64 nd)) (first | exact (HD.out.put nd c.toNat hn800).facts.nd | go_keep) (fail)
                    go_wp2_with fail
                    go_roundg (s.size - (i + 1))
                    case measure => omega
                    case rel => exact ⟨i + 1, _, rfl, by omega, rfl, rfl, rfl, HRN.out, HOK2.out, (HD.out.put nd c.toNat hn800).setNd (nd + 1), below_nn ((HB.out.setCell (p := ⟨g, nd, none⟩) (Nat.le_refl g) _).setCell (p := ⟨g, 800, none⟩) (Nat.le_refl g) _) 1⟩
                · as_aux_lemma =>
                    have HX2 : Hid (DS.digit ⟨⟨d, nd, dp, ng, tr⟩, dot, dig⟩ c = ⟨⟨d, nd, dp, ng, true⟩, dot, true⟩) := Lib.hid (by unfold DS.digit Dec.add; rw [if_neg (fun h => h48 h.1), if_neg hn800, if_neg h48])
                    rw [HX2.out] at HRN HOK2
                    clear HX2 hdrop hrun hok h46 hdg
                    go_wp2_with fail
                    go_roundg (s.size - (i + 1))
                    case measure => omega
                    case rel => exact ⟨i + 1, _, rfl, by omega, rfl, rfl, rfl, HRN.out, HOK2.out, HD.out.setTr true, HB.out.setCell (Nat.le_refl _) _⟩
            | false =>
              have he := dsD_end hrun h46 hdg
              have HE := Lib.hid (And.intro he hdrop)
              have HOK := Lib.hid hok
              have hdf := dig_f hdg
              clear he hdrop hrun hok
              by_cases hd1 : 48 ≤ c.toNat
              · as_aux_lemma =>
                  have hda : decide ((48 : Int) ≤ c.toNat) = true := by simp; omega
                  have hdb : decide ((c.toNat : Int) ≤ 57) = false := by simp; omega
                  clear hd1 hdf h46 hdg
                  go_wp2_with fail
                  go_meet
                  exact ⟨i, by omega, rfl, by rw [HE.out.1], by rw [HE.out.1], by rw [HE.out.1, HE.out.2], by rw [HE.out.1]; exact HOK.out, by rw [HE.out.1]; exact HD.out, HB.out⟩
              · as_aux_lemma =>
                  have hda : decide ((48 : Int) ≤ c.toNat) = false := by simp; omega
                  clear hd1 hdf h46 hdg
                  go_wp2_with fail
                  go_meet
                  exact ⟨i, by omega, rfl, by rw [HE.out.1], by rw [HE.out.1], by rw [HE.out.1, HE.out.2], by rw [HE.out.1]; exact HOK.out, by rw [HE.out.1]; exact HD.out, HB.out⟩
        · as_aux_lemma =>
            have hie : i = s.size := by omega
            subst hie
            have h0 : s.data.toList.drop s.size = [] := List.drop_of_length_le (Nat.le_refl _)
            rw [h0] at hrun
            have HE := Lib.hid (And.intro hrun.symm h0)
            have HOK := Lib.hid hok
            clear hrun hok hlt h0
            go_wp2_with fail
            go_meet
            exact ⟨s.size, by omega, rfl, by rw [HE.out.1]; rfl, by rw [HE.out.1]; rfl, by rw [HE.out.1, HE.out.2]; rfl, by rw [HE.out.1]; exact HOK.out, by rw [HE.out.1]; exact HD.out, HB.out⟩
    case rest =>
     as_aux_lemma =>
      obtain ⟨i, hi, rfl, rfl, rfl, hrest, hok, hD, hB⟩ := hcut.out
      clear hcut
      obtain ⟨⟨⟨d, nd, dp, ng, tr⟩, dot, dig⟩, rest⟩ := fin
      have hdg : dig = true := HDIG.out
      subst hdg
      simp only at hrest hok hD
      obtain ⟨f1, f2, f3, f4, f5, f6⟩ := hD.facts
      simp only at f1 f2
      have hnd := hok.ni
      have hn8 := hok.n8
      have hdp1 := hok.dp1
      have hdp2 := hok.dp2
      simp only at hnd hn8 hdp1 hdp2
      have HX2 := Lib.hid (And.intro HX.out hrest)
      have HD := Lib.hid hD
      have HB := Lib.hid hB
      clear hrest hok HX HFIN HDIG hD hB f3 f4 f6
      obtain ⟨P, hP⟩ : ∃ P, P = DS.point ⟨⟨d, nd, dp, ng, tr⟩, dot, true⟩ := ⟨_, rfl⟩
      have hp1 : -1000000 ≤ P ∧ P ≤ 1000000 := by rw [hP]; unfold DS.point; simp only; split <;> omega
      obtain ⟨hpl, hpu⟩ := hp1
      have HP := Lib.hid hP
      clear hP
      go_upto_if 120 with fail
      go_cut [] (fun wx => DecAt g ⟨d, nd, P, ng, tr⟩ wx ∧ Below g w wx)
      case first =>
       as_aux_lemma =>
        cases dot with
        | true =>
          have HPE := Lib.hid (show P = dp by rw [HP.out]; rfl)
          go_wp2_with fail
          go_meet
          exact ⟨by rw [HPE.out]; exact HD.out, HB.out⟩
        | false =>
          have HPE := Lib.hid (show P = nd by rw [HP.out]; rfl)
          go_wp2_with fail
          go_meet
          exact ⟨by rw [HPE.out]; exact HD.out.setDp nd, HB.out.setCell (Nat.le_refl _) _⟩
      case rest =>
       as_aux_lemma =>
        obtain ⟨hD2, hB2⟩ := hcut
        have HD2 := Lib.hid hD2
        have HB2 := Lib.hid hB2
        clear hD2 hB2 f1 f2 f5 HD HB
        go_upto_region 32 with fail
        go_cut [138] (fun v wx => v = .bool (decide (i < s.size)) ∧ DecAt g ⟨d, nd, P, ng, tr⟩ wx ∧ Below g w wx)
        case first =>
         as_aux_lemma =>
          by_cases hlt : i < s.size
          · have hce : isExp (s[i]'hlt) = true := by
              have h1 := HX2.out.1
              have h2 := HX2.out.2
              simp only at h1
              rw [h2, str_drop s i hlt] at h1
              simp only [rfTail] at h1
              cases he : isExp (s[i]'hlt) with
              | true => rfl
              | false => rw [he] at h1; simp at h1
            have hnc := HAL.out i hlt
            have hdt : decide (i < s.size) = true := decide_eq_true hlt
            have HDT := Lib.hid hdt
            obtain ⟨c, hc⟩ : ∃ c, s[i]'hlt = c := ⟨_, rfl⟩
            rw [hc] at hnc hce
            have hle := (lower_num c hnc).2.1
            rw [hce] at hle
            clear hnc hce hdt
            go_wp2_with (first | (go_at_call 113; refine (lowerC _ _).mono ?_; rintro e w2 ⟨rfl, rfl⟩))
            go_meet
            exact ⟨by rw [HDT.out], HD2.out, HB2.out⟩
          · have hdt : decide (i < s.size) = false := decide_eq_false hlt
            have HDT := Lib.hid hdt
            clear hdt
            go_wp2_with fail
            go_meet
            exact ⟨by rw [HDT.out], HD2.out, HB2.out⟩
        case rest =>
         as_aux_lemma =>
          obtain ⟨rfl, hD3, hB3⟩ := hcut
          have HD3 := Lib.hid hD3
          have HB3 := Lib.hid hB3
          clear hD3 hB3 HD2 HB2
          go_upto_if 138 with fail
          go_cut [5] (fun v5 wx => v5 = .int .i64 (s.size : Nat) ∧ DecAt g ⟨d, nd, P + x, ng, tr⟩ wx ∧ Below g w wx)
          case first =>
           as_aux_lemma =>
            by_cases hlt : i < s.size
            · obtain ⟨hj, e, hcs⟩ : ∃ hj : i + 1 < s.size, ∃ e : Nat, (s[i + 1]'hj = 43 ∧ rfExpEnd (s.data.toList.drop (i + 1 + 1)) = some e ∧ x = e) ∨ (s[i + 1]'hj = 45 ∧ rfExpEnd (s.data.toList.drop (i + 1 + 1)) = some e ∧ x = -(e : Int)) ∨ (s[i + 1]'hj ≠ 43 ∧ s[i + 1]'hj ≠ 45 ∧ rfExpEnd (s.data.toList.drop (i + 1)) = some e ∧ x = e) := by
                have h1 := HX2.out.1
                have h2 := HX2.out.2
                simp only at h1
                rw [h2, str_drop s i hlt] at h1
                simp only [rfTail] at h1
                split at h1
                · exact rfSigned_at h1
                · cases h1
              obtain ⟨j, sg, hjj, hsg, hee, hxs, hj2⟩ : ∃ j : Nat, ∃ sg : Int, (j = i + 1 ∨ j = i + 2) ∧ (sg = 1 ∨ sg = -1) ∧ rfExpEnd (s.data.toList.drop j) = some e ∧ x = e * sg ∧ ((s[i + 1]'hj = 43 ∧ j = i + 2 ∧ sg = 1) ∨ (s[i + 1]'hj = 45 ∧ j = i + 2 ∧ sg = -1) ∨ (s[i + 1]'hj ≠ 43 ∧ s[i + 1]'hj ≠ 45 ∧ j = i + 1 ∧ sg = 1)) := by
                rcases hcs with ⟨h1, h2, h3⟩ | ⟨h1, h2, h3⟩ | ⟨h1, h1', h2, h3⟩
                · exact ⟨i + 2, 1, .inr rfl, .inl rfl, h2, by omega, .inl ⟨h1, rfl, rfl⟩⟩
                · exact ⟨i + 2, -1, .inr rfl, .inr rfl, h2, by omega, .inr (.inl ⟨h1, rfl, rfl⟩)⟩
                · exact ⟨i + 1, 1, .inl rfl, .inl rfl, h2, by omega, .inr (.inr ⟨h1, h1', rfl, rfl⟩)⟩
              obtain ⟨hjs, hjd, hexp⟩ := rfExpEnd_at hee
              have HX3 := Lib.hid (And.intro hexp hxs)
              have hdt : decide (i < s.size) = true := decide_eq_true hlt
              clear hcs hee hexp hxs HX2
              go_upto_block 4 with fail
              go_cut [5, 8] (fun v5 v8 wx => v5 = .int .i64 (j : Nat) ∧ v8 = .int .i64 sg ∧ DecAt g ⟨d, nd, P, ng, tr⟩ wx ∧ Below g w wx)
              case first =>
               as_aux_lemma =>
                clear hjd hsg hjj
                obtain ⟨c, hc⟩ : ∃ c, s[i + 1]'hj = c := ⟨_, rfl⟩
                rw [hc] at hj2
                rcases hj2 with ⟨h1, rfl, rfl⟩ | ⟨h1, rfl, rfl⟩ | ⟨h1, h2, rfl, rfl⟩
                · subst h1
                  go_wp2_with fail
                  go_meet
                  exact ⟨rfl, rfl, HD3.out, HB3.out⟩
                · subst h1
                  go_wp2_with fail
                  go_meet
                  exact ⟨rfl, rfl, HD3.out, HB3.out⟩
                · have n43' : ((c.toNat : Int) == 43) = false := byte_ne' h1
                  have n45' : ((c.toNat : Int) == 45) = false := byte_ne' h2
                  clear h1 h2
                  go_wp2_with fail
                  go_meet
                  exact ⟨rfl, rfl, HD3.out, HB3.out⟩
              case rest =>
               as_aux_lemma =>
                obtain ⟨rfl, rfl, hD4, hB4⟩ := hcut
                have HD4 := Lib.hid hD4
                have HB4 := Lib.hid hB4
                clear hj2 hD4 hB4 HD3 HB3
                go_upto_region 42 with fail
                go_cut [171] (fun v wx => v = .bool false ∧ DecAt g ⟨d, nd, P, ng, tr⟩ wx ∧ Below g w wx)
                case first =>
                 as_aux_lemma =>
                  obtain ⟨c, hc⟩ : ∃ c, s[j]'hjs = c := ⟨_, rfl⟩
                  rw [hc] at hjd
                  have hd1 : ¬ ((c.toNat : Int) < 48) := by have := dig_t hjd; omega
                  have hd2 : ¬ ((57 : Int) < c.toNat) := by have := dig_t hjd; omega
                  clear hjd hsg hjj
                  go_wp2_with fail
                  go_meet
                  exact ⟨by rw [decide_eq_false (by omega)], HD4.out, HB4.out⟩
                case rest =>
                 as_aux_lemma =>
                  obtain ⟨rfl, hD5, hB5⟩ := hcut
                  have HD5 := Lib.hid hD5
                  have HB5 := Lib.hid hB5
                  clear hjd hD5 hB5 HD4 HB4
                  go_upto_block 5 with fail
                  go_cut [5, 9] (fun v5 v9 wx => v5 = .int .i64 (s.size : Nat) ∧ v9 = .int .i64 (e : Nat) ∧ DecAt g ⟨d, nd, P, ng, tr⟩ wx ∧ Below g w wx)
                  case first =>
                   as_aux_lemma =>
                    go_wp2_with fail
                    go_loopg [5, 9] (s.size - j) (fun n v5 v9 wx => Aside (∃ i2 e2 : Nat, n = s.size - i2 ∧ v5 = .int .i64 (i2 : Nat) ∧ v9 = .int .i64 (e2 : Nat) ∧ i2 ≤ s.size ∧ rfExp e2 (s.data.toList.drop i2) = (e, []) ∧ e2 ≤ 99999 ∧ DecAt g ⟨d, nd, P, ng, tr⟩ wx ∧ Below g w wx))
                    case atStart => exact ⟨j, 0, rfl, rfl, rfl, by omega, HX3.out.1, by omega, HD5.out, HB5.out⟩
                    case round =>
                      obtain ⟨i2, e2, rfl, rfl, rfl, hi2, hr2, he2, hD6, hB6⟩ := hrel.out
                      clear hrel
                      have HD6 := Lib.hid hD6
                      have HB6 := Lib.hid hB6
                      clear hD6 hB6
                      by_cases hl2 : i2 < s.size
                      · have hdrop := str_drop s i2 hl2
                        obtain ⟨c, hc⟩ : ∃ c, s[i2]'hl2 = c := ⟨_, rfl⟩
                        rw [hc] at hdrop
                        rw [hdrop, rfExp] at hr2
                        cases hdg : isDig c with
                        | false => rw [hdg] at hr2; simp at hr2
                        | true =>
                          rw [hdg] at hr2
                          simp only [if_true] at hr2
                          have hle := expDigit_le hdg he2
                          have hd1 : (48 : Int) ≤ c.toNat := by have := dig_t hdg; omega
                          have hd2 : (c.toNat : Int) ≤ 57 := by have := dig_t hdg; omega
                          have n95 : ((c.toNat : Int) == 95) = false := by simp only [beq_eq_false_iff_ne, ne_eq]; omega
                          by_cases hlim : e2 < 10000
                          · have hed : expDigit e2 c = e2 * 10 + (c.toNat - 48) := by unfold expDigit; rw [if_pos hlim]
                            rw [hed] at hr2 hle
                            have HR2 := Lib.hid hr2
                            clear hr2 hdrop hdg hed
                            go_wp2_with fail
                            go_roundg (s.size - (i2 + 1))
                            case measure => omega
                            case rel => exact ⟨i2 + 1, e2 * 10 + (c.toNat - 48), rfl, rfl, congrArg (Value.int .i64) (by omega), by omega, HR2.out, hle, HD6.out, HB6.out⟩
                          · have hed : expDigit e2 c = e2 := by unfold expDigit; rw [if_neg hlim]
                            rw [hed] at hr2 hle
                            have HR2 := Lib.hid hr2
                            clear hr2 hdrop hdg hed
                            go_wp2_with fail
                            go_roundg (s.size - (i2 + 1))
                            case measure => omega
                            case rel => exact ⟨i2 + 1, e2, rfl, rfl, rfl, by omega, HR2.out, hle, HD6.out, HB6.out⟩
                      · obtain rfl : i2 = s.size := by omega
                        have h0 : s.data.toList.drop s.size = [] := List.drop_of_length_le (Nat.le_refl _)
                        rw [h0, rfExp] at hr2
                        have HR2 := Lib.hid (Prod.mk.inj hr2).1
                        clear hr2 h0
                        go_wp2_with fail
                        go_meet
                        exact ⟨rfl, by rw [HR2.out], HD6.out, HB6.out⟩
                  case rest =>
                   as_aux_lemma =>
                    obtain ⟨rfl, rfl, hD7, hB7⟩ := hcut
                    have hle : e ≤ 99999 := by
                      have := rfExp_le (s.data.toList.drop j) 0 (by omega)
                      rw [HX3.out.1] at this
                      exact this
                    obtain ⟨f1, f2, f3, f4, f5, f6⟩ := hD7.facts
                    simp only at f2
                    have HD7 := Lib.hid hD7
                    have HB7 := Lib.hid hB7
                    clear hD7 hB7 HD5 HB5 f1 f3 f4 f6
                    rcases hsg with rfl | rfl
                    · have HE := Lib.hid (show P + e = P + x by rw [HX3.out.2]; omega)
                      go_wp2_with fail
                      go_meet
                      exact ⟨rfl, by rw [← HE.out]; exact HD7.out.setDp (P + e), HB7.out.setCell (Nat.le_refl _) _⟩
                    · have HE := Lib.hid (show P + -(e : Int) = P + x by rw [HX3.out.2]; omega)
                      go_wp2_with fail
                      go_meet
                      exact ⟨rfl, by rw [← HE.out]; exact HD7.out.setDp (P + -(e : Int)), HB7.out.setCell (Nat.le_refl _) _⟩
            · have hie : i = s.size := by omega
              have hx0 : x = 0 := by
                have h1 := HX2.out.1
                have h2 := HX2.out.2
                have h0 : s.data.toList.drop i = [] := List.drop_of_length_le (by rw [hie]; exact Nat.le_refl _)
                simp only at h1
                rw [h2, h0] at h1
                simp [rfTail] at h1
                exact h1.symm
              have hdt : decide (i < s.size) = false := decide_eq_false hlt
              have HX0 := Lib.hid (show P = P + x by omega)
              have HIE := Lib.hid hie
              clear hx0 hie HX2
              go_wp2_with fail
              go_meet
              exact ⟨by rw [HIE.out], by rw [← HX0.out]; exact HD3.out, HB3.out⟩
          case rest =>
           as_aux_lemma =>
            obtain ⟨rfl, hD8, hB8⟩ := hcut
            have HD8 := Lib.hid hD8
            have HB8 := Lib.hid hB8
            have HXP := Lib.hid (show P + x = DS.point ⟨⟨d, nd, dp, ng, tr⟩, dot, true⟩ + x by rw [← HP.out])
            clear hD8 hB8 HD3 HB3
            go_wp2_with fail
            go_ret
            exact ⟨rfl, by rw [← HXP.out]; exact HD8.out, HB8.out⟩

end Go.Proofs.YtdabllkphibfmaaGreatDoor

/- atof64 at every number's text: one answer, but for what only the slow road decides. -/
namespace Go.Proofs.YtdabllkphibfmaaGreatDoor
open Go Go.RowKit
set_option linter.unusedSimpArgs false
set_option linter.unusedVariables false

def errR (r : Bool) : Value := if r then .iface 124 (.int .i64 1) else .nilIface
/-- A float, the text's length, perhaps out of range. -/
def AfR (b : Nat) (r : Bool) (n : Nat) (w : World) (e : Ending) (w' : World) : Prop := e = .returned (.tuple #[.float .f64 b, .int .i64 n, errR r]) ∧ Below w.heap.size w w'

theorem AfR.of {b n : Nat} {w : World} {e : Ending} {w' : World} (h : AfPost b n w e w') : AfR b false n w e w' := by
  obtain ⟨rfl, k, rfl⟩ := h
  exact ⟨rfl, ⟨rfl, rfl, rfl, Nat.le_refl _, fun _ _ => rfl⟩⟩

section
variable (s : ByteArray) (hal : ∀ c ∈ s.data.toList, isNumC c = true) (hl : s.size ≤ 1000000) (w0 : World) (hf : FloVars w0)

def sgI (neg : Bool) : Int := if neg then 9223372036854775808 else 0

theorem frB (u : Int) (w : World) : (Extern.MathFloatBits.float64frombits #[.int .u64 u]).run Tryz.prog w = .ok (.float .f64 (toF u)) w := fromU u w

set_option maxRecDepth 1000000 in
set_option maxHeartbeats 8000000 in
/-- Too great. -/
theorem atof64_over (hal : ∀ c ∈ s.data.toList, isNumC c = true) (hl : s.size ≤ 1000000) (hf : FloVars w0) (m : Nat) (hm0 : m ≠ 0) (e : Int) (he : 310 < e) (neg tr : Bool) (h : rf s.data.toList = some (m, e, neg, tr)) : ∃ b : Nat, ∀ w, Old w0 w → Calls Tryz.prog 78 #[.string s] w (AfR b true s.size w) := by
  have hw : ∀ b : Nat, ∀ U : Int, toF U = b → U = bits .or .u64 (sgI neg) 9218868437227405312 → ∀ w, Old w0 w → Calls Tryz.prog 78 #[.string s] w (AfR b true s.size w) := by
    intro b U hU hU2 w ho
    have h98 := @run_callFunc_extern Tryz.prog 98 _ Extern.MathFloatBits.float64frombits Tryz.func98 (by kernel_rfl) (by kernel_rfl) (by kernel_rfl) (by kernel_rfl)
    have h7 := ho.cell hf.opt
    have HS := Lib.hid (special0 s hl _ h)
    have HR := Lib.hid (fun w => readFloat s hal hl w _ _ _ _ h)
    have nm0 : ((m : Int) == 0) = false := by simp only [beq_eq_false_iff_ne, ne_eq]; omega
    have HU := Lib.hid hU
    have HU2 := Lib.hid hU2
    clear hf ho hal h hm0 hU hU2
    cases neg with
    | true =>
      have hfb : ∀ w, (Extern.MathFloatBits.float64frombits #[.int .u64 (bits .or .u64 9223372036854775808 9218868437227405312)]).run Tryz.prog w = .ok (.float .f64 b) w := fun w => by
        have e2 : bits .or .u64 9223372036854775808 9218868437227405312 = U := HU2.out.symm
        rw [e2, frB, HU.out]
      go_enter Tryz.func78, Tryz.ntmps78
      go_wp2_with (first
        | (go_at_call 88; refine (HS.out _).mono ?_; rintro e w1 ⟨rfl, rfl⟩)
        | (go_at_call 89; refine (HR.out _).mono ?_; rintro e w1 ⟨rfl, rfl⟩)
        | (go_at_call 97; refine (bool2u _ _).mono ?_; rintro e w1 ⟨rfl, rfl⟩))
      go_ret3
      exact ⟨rfl, Below.refl _ _⟩
    | false =>
      have hfb : ∀ w, (Extern.MathFloatBits.float64frombits #[.int .u64 (bits .or .u64 0 9218868437227405312)]).run Tryz.prog w = .ok (.float .f64 b) w := fun w => by
        have e2 : bits .or .u64 0 9218868437227405312 = U := HU2.out.symm
        rw [e2, frB, HU.out]
      go_enter Tryz.func78, Tryz.ntmps78
      go_wp2_with (first
        | (go_at_call 88; refine (HS.out _).mono ?_; rintro e w1 ⟨rfl, rfl⟩)
        | (go_at_call 89; refine (HR.out _).mono ?_; rintro e w1 ⟨rfl, rfl⟩)
        | (go_at_call 97; refine (bool2u _ _).mono ?_; rintro e w1 ⟨rfl, rfl⟩))
      go_ret3
      exact ⟨rfl, Below.refl _ _⟩
  exact ⟨_, hw _ _ rfl rfl⟩

set_option maxRecDepth 1000000 in
set_option maxHeartbeats 8000000 in
/-- Too small: a nought with its sign. -/
theorem atof64_under (hal : ∀ c ∈ s.data.toList, isNumC c = true) (hl : s.size ≤ 1000000) (hf : FloVars w0) (m : Nat) (hm0 : m ≠ 0) (e : Int) (he : e < -345) (neg tr : Bool) (h : rf s.data.toList = some (m, e, neg, tr)) (w : World) (ho : Old w0 w) : Calls Tryz.prog 78 #[.string s] w (AfPost (sgnF neg) s.size w) := by
  have h98 := @run_callFunc_extern Tryz.prog 98 _ Extern.MathFloatBits.float64frombits Tryz.func98 (by kernel_rfl) (by kernel_rfl) (by kernel_rfl) (by kernel_rfl)
  have h7 := ho.cell hf.opt
  have HS := Lib.hid (special0 s hl _ h)
  have HR := Lib.hid (fun w => readFloat s hal hl w _ _ _ _ h)
  have nm0 : ((m : Int) == 0) = false := by simp only [beq_eq_false_iff_ne, ne_eq]; omega
  have h310 : ¬ (310 : Int) < e := by omega
  clear hf ho hal h hm0
  cases neg with
  | true =>
    have hfb : ∀ w, (Extern.MathFloatBits.float64frombits #[.int .u64 (bits .or .u64 9223372036854775808 0)]).run Tryz.prog w = .ok (.float .f64 (sgnF true)) w := fun w => by rw [or_sign]; exact fromBits (sgnF true) w
    go_enter Tryz.func78, Tryz.ntmps78
    go_wp2_with (first
      | (go_at_call 88; refine (HS.out _).mono ?_; rintro e w1 ⟨rfl, rfl⟩)
      | (go_at_call 89; refine (HR.out _).mono ?_; rintro e w1 ⟨rfl, rfl⟩)
      | (go_at_call 97; refine (bool2u _ _).mono ?_; rintro e w1 ⟨rfl, rfl⟩))
    go_ret3
    exact ⟨rfl, 0, rfl⟩
  | false =>
    have hfb : ∀ w, (Extern.MathFloatBits.float64frombits #[.int .u64 (bits .or .u64 0 0)]).run Tryz.prog w = .ok (.float .f64 (sgnF false)) w := fun w => by rw [or_zero]; exact fromBits (sgnF false) w
    go_enter Tryz.func78, Tryz.ntmps78
    go_wp2_with (first
      | (go_at_call 88; refine (HS.out _).mono ?_; rintro e w1 ⟨rfl, rfl⟩)
      | (go_at_call 89; refine (HR.out _).mono ?_; rintro e w1 ⟨rfl, rfl⟩)
      | (go_at_call 97; refine (bool2u _ _).mono ?_; rintro e w1 ⟨rfl, rfl⟩))
    go_ret3
    exact ⟨rfl, 0, rfl⟩

/-- atof64exact, where it does not serve. -/
def NoEx (w : World) (e : Ending) (w' : World) : Prop := ∃ (b k : Nat), e = .returned (.tuple #[.float .f64 b, .bool false]) ∧ w' = w.drewN k

theorem exact_no (w0 : World) (hf : FloVars w0) (m : Nat) (hm : m < 18446744073709551616) (e : Int) (he : -2000000 ≤ e ∧ e ≤ 2000000) (neg : Bool) (hx : exactF m e neg = none) (w : World) (ho : Old w0 w) : Calls Tryz.prog 99 #[.int .u64 m, .int .i64 e, .bool neg] w (NoEx w) := by
  refine (atofExact w0 hf m hm e he neg w ho).mono ?_
  rintro e' w' ⟨b', ok, rfl, hr, k, rfl⟩
  rw [hx] at hr
  cases ok with
  | false => exact ⟨b', k, rfl, rfl⟩
  | true => cases hr

theorem below_dr {w w1 : World} {k : Nat} (h : Below (w.drewN k).heap.size (w.drewN k) w1) : Below w.heap.size w w1 := ⟨h.os, h.tape, h.output, h.size, h.block⟩
theorem Old.drewN {w0 w : World} (h : Old w0 w) (k : Nat) : Old w0 (w.drewN k) := ⟨h.size, h.block⟩

set_option maxRecDepth 1000000 in
set_option maxHeartbeats 8000000 in
/-- The table's road: nothing left out. -/
theorem atof64_tab (hal : ∀ c ∈ s.data.toList, isNumC c = true) (hl : s.size ≤ 1000000) (hf : FloVars w0) (m : Nat) (hm0 : m ≠ 0) (hm : m < 18446744073709551616) (e : Int) (he1 : -345 ≤ e) (he2 : e ≤ 310) (neg : Bool) (h : rf s.data.toList = some (m, e, neg, false)) (hx : exactF m e neg = none) (b : Nat) (r : Bool)
    (hp : ∀ w, Old w0 w → Calls Tryz.prog 100 #[.int .u64 m, .int .i64 e, .int .u64 (sgI neg)] w (RetF b r w)) (w : World) (ho : Old w0 w) : Calls Tryz.prog 78 #[.string s] w (AfR b r s.size w) := by
  have h7 := ho.cell hf.opt
  have HS := Lib.hid (special0 s hl _ h)
  have HR := Lib.hid (fun w => readFloat s hal hl w _ _ _ _ h)
  have HX := Lib.hid (fun w ho => exact_no w0 hf m hm e ⟨by omega, by omega⟩ neg hx w ho)
  have nm0 : ((m : Int) == 0) = false := by simp only [beq_eq_false_iff_ne, ne_eq]; omega
  have HO := Lib.hid ho
  have HP := Lib.hid hp
  clear hf ho hal h hm hx hm0 hp
  cases neg <;> cases r
  all_goals
    go_enter Tryz.func78, Tryz.ntmps78
    go_wp2_with (first
      | (go_at_call 88; refine (HS.out _).mono ?_; rintro e w1 ⟨rfl, rfl⟩)
      | (go_at_call 89; refine (HR.out _).mono ?_; rintro e w1 ⟨rfl, rfl⟩)
      | (go_at_call 97; refine (bool2u _ _).mono ?_; rintro e w1 ⟨rfl, rfl⟩)
      | (go_at_call 99; refine (HX.out _ HO.out).mono ?_; rintro e w1 ⟨b1, k, rfl, rfl⟩)
      | (go_at_call 100; refine (HP.out _ (HO.out.drewN _)).mono ?_; rintro e w1 ⟨rfl, hb1⟩; have HB1 := Lib.hid hb1; clear hb1))
    go_ret3
    exact ⟨rfl, below_dr HB1.out⟩

end
end Go.Proofs.YtdabllkphibfmaaGreatDoor

/- atof64 where digits were left out: the table's road twice, and the slow road. -/
namespace Go.Proofs.YtdabllkphibfmaaGreatDoor
open Go Go.RowKit
set_option linter.unusedSimpArgs false
set_option linter.unusedVariables false

/-- The two answers are one. -/
def feq (x y : Nat) : Bool := FloatKind.f64.format.order x y == some Ordering.eq

set_option maxRecDepth 1000000 in
set_option maxHeartbeats 8000000 in
theorem atof64_eq (s : ByteArray) (w0 : World) (hal : ∀ c ∈ s.data.toList, isNumC c = true) (hl : s.size ≤ 1000000) (hf : FloVars w0) (m : Nat) (hm0 : m ≠ 0) (e : Int) (he1 : -345 ≤ e) (he2 : e ≤ 310) (neg : Bool) (h : rf s.data.toList = some (m, e, neg, true)) (b : Nat) (r : Bool)
    (hp : ∀ w, Old w0 w → Calls Tryz.prog 100 #[.int .u64 m, .int .i64 e, .int .u64 (sgI neg)] w (RetF b r w)) (m1 : Nat) (hm1 : IntKind.u64.wrap ((m : Int) + 1) = m1) (b1 : Nat) (r1 : Bool)
    (hp1 : ∀ w, Old w0 w → Calls Tryz.prog 100 #[.int .u64 m1, .int .i64 e, .int .u64 (sgI neg)] w (RetF b1 r1 w)) (hq : (FloatKind.f64.format.order b b1 == some Ordering.eq) = true) (w : World) (ho : Old w0 w) : Calls Tryz.prog 78 #[.string s] w (AfR b r s.size w) := by
  have h7 := ho.cell hf.opt
  have HS := Lib.hid (special0 s hl _ h)
  have HR := Lib.hid (fun w => readFloat s hal hl w _ _ _ _ h)
  have nm0 : ((m : Int) == 0) = false := by simp only [beq_eq_false_iff_ne, ne_eq]; omega
  have HO := Lib.hid ho
  have HP := Lib.hid hp
  have HP1 := Lib.hid hp1
  clear hf ho hal h hm0 hp hp1
  cases neg <;> cases r
  all_goals
    go_enter Tryz.func78, Tryz.ntmps78
    go_wp2_with (first
      | (go_at_call 88; refine (HS.out _).mono ?_; rintro e w1 ⟨rfl, rfl⟩)
      | (go_at_call 89; refine (HR.out _).mono ?_; rintro e w1 ⟨rfl, rfl⟩)
      | (go_at_call 97; refine (bool2u _ _).mono ?_; rintro e w1 ⟨rfl, rfl⟩)
      | (go_at_call_of 100 (Value.int .u64 (m : Int)); refine (HP.out _ HO.out).mono ?_; rintro e w1 ⟨rfl, hb1⟩; have HB1 := Lib.hid hb1; clear hb1)
      | (go_at_call_of 100 (Value.int .u64 (m1 : Int)); refine (HP1.out _ (HO.out.below HB1.out HO.out.size)).mono ?_; rintro e w2 ⟨rfl, hb2⟩; have HB2 := Lib.hid hb2; clear hb2))
    all_goals go_ret3
    all_goals exact ⟨rfl, HB1.out.trans (HB2.out.mono HB1.out.size)⟩

end Go.Proofs.YtdabllkphibfmaaGreatDoor

/- atof64's slow road; ParseFloat of every number's text gives one answer. -/
namespace Go.Proofs.YtdabllkphibfmaaGreatDoor
open Go Go.RowKit
set_option linter.unusedSimpArgs false
set_option linter.unusedVariables false

theorem zeroDec : Tryz.zeroCells188 = (DS.zero false).S.cells := by kernel_rfl

theorem Fb.old {D : Nat → Nat} {C : Nat → List UInt8} {P : Nat → Nat} {w0 w : World} {a : Addr} {c : Nat} {b : Addr} {cb : Nat} (h : Fb D C P w0.heap.size w0 a c b cb) (ho : Old w0 w) (g : Nat) (hg : w0.heap.size ≤ g) : Fb D C P g w a c b cb := by
  obtain ⟨⟨l1, l2, l3, l4, l5, l6, l7⟩, h2, h3, h4, h5, h6, h7, h8⟩ := h
  exact ⟨⟨ho.cellA l1, by omega, fun k => Nat.lt_of_lt_of_le (l3 k) hg, Nat.lt_of_lt_of_le l4 hg, fun k a b => ho.cellA (l5 k a b), fun k a b => ho.cellA (l6 k a b), l7⟩, ho.cellA h2, fun i => Nat.lt_of_lt_of_le (h3 i) hg, fun i hi => ho.cellA (h4 i hi), h5, ho.cellA h6, ho.cellA h7, ho.cellA h8⟩

theorem ds_ok : ∀ (l : List UInt8) (s : DS) (i : Nat), DSOk s i → ∃ j, DSOk (dsDigits s l).1 j
  | [], s, i, h => ⟨i, h⟩
  | c :: r, s, i, h => by
    rw [dsDigits]
    split
    · split
      · exact ⟨i, h⟩
      · exact ds_ok r _ _ h.pt
    · split
      · rename_i hc
        exact ds_ok r _ _ (h.digit c hc)
      · exact ⟨i, h⟩

theorem setF_ok (neg : Bool) (x : Int) (l : List UInt8) (hn : (setF neg x l).nd ≠ 0) : DecOk (setF neg x l) := by
  obtain ⟨j, hj⟩ := ds_ok l (DS.zero neg) 0 (DSOk.start neg)
  exact ⟨Nat.pos_of_ne_zero hn, hj.n8, hj.dig, hj.d0 hn⟩

/-- What the slow road reads. -/
theorem rf_ds {s : ByteArray} {m : Nat} {e : Int} {neg tr : Bool} (h : rf s.data.toList = some (m, e, neg, tr)) : ∃ (hn : 0 < s.size) (k : Nat) (x : Int), k = (if s[0]'hn = 45 then 1 else 0) ∧ neg = decide (s[0]'hn = 45) ∧ s[0]'hn ≠ 43 ∧ (dsDigits (DS.zero neg) (s.data.toList.drop k)).1.dig = true ∧ rfTail (dsDigits (DS.zero neg) (s.data.toList.drop k)).2 = some x := by
  have hn : 0 < s.size := by
    rcases Nat.eq_zero_or_pos s.size with h0 | h0
    · have : s.data.toList = [] := List.eq_nil_of_length_eq_zero h0
      rw [this] at h; cases h
    · exact h0
  have h0 := str_drop s 0 hn
  rw [List.drop_zero] at h0
  have fin : ∀ (k : Nat) (p : Nat × Int × Bool), rfBody (s.data.toList.drop k) = some p → ∃ x, (dsDigits (DS.zero neg) (s.data.toList.drop k)).1.dig = true ∧ rfTail (dsDigits (DS.zero neg) (s.data.toList.drop k)).2 = some x := by
    intro k p hb
    obtain ⟨e1, e2, e3⟩ := ds_rf (s.data.toList.drop k) (DS.zero neg) RS.zero rfl rfl
    unfold rfBody at hb
    simp only at hb
    split at hb
    · rename_i hd
      obtain ⟨x, hx, _⟩ := Option.map_eq_some_iff.1 hb
      exact ⟨x, e3.trans hd, by rw [e1]; exact hx⟩
    · cases hb
  by_cases h45 : s[0]'hn = 45
  · rw [h0] at h
    simp only [rf, h45, if_true, Option.map_eq_some_iff, Prod.mk.injEq] at h
    obtain ⟨p, h1, _, _, h2, _⟩ := h
    obtain ⟨x, hx1, hx2⟩ := fin 1 p h1
    exact ⟨hn, 1, x, by rw [if_pos h45], by rw [← h2]; simp [h45], by rw [h45]; decide, hx1, hx2⟩
  · rw [h0] at h
    simp only [rf, h45, if_false, Option.map_eq_some_iff, Prod.mk.injEq] at h
    obtain ⟨p, h1, _, _, h2, _⟩ := h
    have h1' : rfBody (s.data.toList.drop 0) = some p := by rw [List.drop_zero, h0]; exact h1
    obtain ⟨x, hx1, hx2⟩ := fin 0 p h1'
    refine ⟨hn, 0, x, by rw [if_neg h45], by rw [← h2]; simp [h45], ?_, hx1, hx2⟩
    intro h43
    rw [h43] at h1
    simp [rfBody, rfDigits, isDig, RS.zero] at h1

theorem ext_all (s : ByteArray) : s.extract 0 s.size = s := by
  apply ByteArray.ext
  apply Array.toList_inj.1
  rw [Lib.extract_to_end, List.drop_zero]

set_option maxRecDepth 1000000 in
set_option maxHeartbeats 8000000 in
theorem atof64_slow {D : Nat → Nat} {C : Nat → List UInt8} {P : Nat → Nat} {a : Addr} {c : Nat} {pb : Addr} {cb : Nat} (s : ByteArray) (w0 : World) (hal : ∀ c ∈ s.data.toList, isNumC c = true) (hl : s.size ≤ 1000000) (hf : FloVars w0) (hfb : Fb D C P w0.heap.size w0 a c pb cb) (m : Nat) (hm0 : m ≠ 0) (e : Int) (he1 : -345 ≤ e) (he2 : e ≤ 310) (neg : Bool) (h : rf s.data.toList = some (m, e, neg, true)) (b : Nat) (r : Bool)
    (hp : ∀ w, Old w0 w → Calls Tryz.prog 100 #[.int .u64 m, .int .i64 e, .int .u64 (sgI neg)] w (RetF b r w)) (m1 : Nat) (hm1 : IntKind.u64.wrap ((m : Int) + 1) = m1) (b1 : Nat) (r1 : Bool)
    (hp1 : ∀ w, Old w0 w → Calls Tryz.prog 100 #[.int .u64 m1, .int .i64 e, .int .u64 (sgI neg)] w (RetF b1 r1 w)) (hq : (FloatKind.f64.format.order b b1 == some Ordering.eq) = false) : ∃ (b2 : Nat) (r2 : Bool), ∀ w, Old w0 w → Calls Tryz.prog 78 #[.string s] w (AfR b2 r2 s.size w) := by
  obtain ⟨hn, k, x, hk, hneg, h43, hdig, hx⟩ := rf_ds h
  obtain ⟨S, hS⟩ : ∃ S, setF neg x (s.data.toList.drop k) = S := ⟨_, rfl⟩
  have hok : S.nd ≠ 0 → DecOk S := by subst hS; exact setF_ok neg x _
  have hset : ∀ (g : Nat) (w : World), DecAt g (DS.zero false).S w → Calls Tryz.prog 95 #[.pointer (some ⟨g, 0, none⟩), .string s] w (SetPost g S w) := fun g w hd => by
    rw [← hS]
    exact decSet g s hal hl w k x neg hn hk hneg h43 hdig hx hd
  clear hk hneg h43 hdig hx hS
  obtain ⟨U, o2, hU⟩ : ∃ U o2, fbOut D C P S = (U, o2) := ⟨_, _, rfl⟩
  refine ⟨toF U, o2, fun w ho => ?_⟩
  have h98 := @run_callFunc_extern Tryz.prog 98 _ Extern.MathFloatBits.float64frombits Tryz.func98 (by kernel_rfl) (by kernel_rfl) (by kernel_rfl) (by kernel_rfl)
  have hfr : ∀ w, (Extern.MathFloatBits.float64frombits #[.int .u64 U]).run Tryz.prog w = .ok (.float .f64 (toF U)) w := fun w => frB U w
  have hex := ext_all s
  have h7 := ho.cell hf.opt
  have HS := Lib.hid (special0 s hl _ h)
  have HR := Lib.hid (fun w => readFloat s hal hl w _ _ _ _ h)
  have nm0 : ((m : Int) == 0) = false := by simp only [beq_eq_false_iff_ne, ne_eq]; omega
  have HO := Lib.hid ho
  have HP := Lib.hid hp
  have HP1 := Lib.hid hp1
  have HSET := Lib.hid hset
  have HFB : Hid (∀ (g : Nat) (W : World), Old w0 W → w0.heap.size ≤ g → DecAt g S W → Calls Tryz.prog 96 #[.pointer (some ⟨g, 0, none⟩), .pointer (some ⟨8, 0, none⟩)] W (FbPost g U o2 W)) := Lib.hid (fun g W hW hg hd => by
    have := floatBits S hok W hd (hfb.old hW g hg)
    rw [hU] at this
    exact this)
  clear hf ho hal h hm0 hp hp1 hset hfb hok hU
  cases neg <;> cases r <;> cases r1 <;> cases o2
  all_goals
    go_enter Tryz.func78, Tryz.ntmps78
    go_wp2_with (first
      | (go_at_call 88; refine (HS.out _).mono ?_; rintro e w1 ⟨rfl, rfl⟩)
      | (go_at_call 89; refine (HR.out _).mono ?_; rintro e w1 ⟨rfl, rfl⟩)
      | (go_at_call 97; refine (bool2u _ _).mono ?_; rintro e w1 ⟨rfl, rfl⟩)
      | (go_at_call_of 100 (Value.int .u64 (m : Int)); refine (HP.out _ HO.out).mono ?_; rintro e w1 ⟨rfl, hb1⟩; have HB1 := Lib.hid hb1; clear hb1)
      | (go_at_call_of 100 (Value.int .u64 (m1 : Int)); refine (HP1.out _ (HO.out.below HB1.out HO.out.size)).mono ?_; rintro e w2 ⟨rfl, hb2⟩; have HB2 := Lib.hid (HB1.out.trans (hb2.mono HB1.out.size)); clear hb2)
      | (go_at_call 95; refine (HSET.out w2.heap.size _ (by unfold DecAt; rw [← zeroDec]; exact heap_alloc_new _ _)).mono ?_; rintro e w3 ⟨rfl, hd3, hb3⟩; have HD3 := Lib.hid hd3; have HB3 := Lib.hid ((below_one' w2 _).trans hb3); clear hd3 hb3)
      | (go_at_call 96; refine (HFB.out w2.heap.size w3 (HO.out.below (HB2.out.trans (HB3.out.mono HB2.out.size)) HO.out.size) (Nat.le_trans HO.out.size HB2.out.size) HD3.out).mono ?_; rintro e w4 ⟨rfl, hb4⟩; have HB4 := Lib.hid (HB3.out.trans hb4); clear hb4))
    all_goals go_ret3
    all_goals exact ⟨rfl, HB2.out.trans (HB4.out.mono HB2.out.size)⟩

end Go.Proofs.YtdabllkphibfmaaGreatDoor

/- Every number of JSON is a text that ParseFloat reads: plain. -/
namespace Go.Proofs.YtdabllkphibfmaaGreatDoor
open Go Go.RowKit
set_option linter.unusedSimpArgs false
set_option linter.unusedVariables false

theorem rfExp_rest : ∀ (l : List UInt8) (e : Nat), (rfExp e l).2 = l.dropWhile isDig
  | [], e => rfl
  | c :: r, e => by
    rw [rfExp, List.dropWhile_cons]
    cases h : isDig c with
    | true => simp only [if_true]; exact rfExp_rest r _
    | false => rfl

theorem rfExpEnd_some {d : UInt8} {r : List UInt8} (hd : isDig d = true) (h : (r.dropWhile isDig).isEmpty = true) : rfExpEnd (d :: r) ≠ none := by
  unfold rfExpEnd
  simp only [hd, if_true]
  have : (rfExp 0 (d :: r)).2 = [] := by
    rw [rfExp_rest, List.dropWhile_cons, if_pos hd]
    simpa using h
  rw [if_pos this]
  simp

theorem map_ne {α β : Type} {o : Option α} {f : α → β} (h : o ≠ none) : o.map f ≠ none := by
  cases o with
  | none => exact absurd rfl h
  | some _ => simp

theorem dig_not (d : UInt8) (h : isDig d = true) : d ≠ 43 ∧ d ≠ 45 ∧ d ≠ 46 ∧ isExp d = false := by
  revert h
  refine byte_all (p := fun d => isDig d = true → d ≠ 43 ∧ d ≠ 45 ∧ d ≠ 46 ∧ isExp d = false) ?_ d
  decide +kernel
theorem exp_not (d : UInt8) (h : isExp d = true) : d ≠ 46 ∧ isDig d = false := by
  revert h
  refine byte_all (p := fun d => isExp d = true → d ≠ 46 ∧ isDig d = false) ?_ d
  decide +kernel

theorem exExp_tail {l : List UInt8} (h : exExp l = true) : rfTail l ≠ none := by
  cases l with
  | nil => simp [rfTail]
  | cons c r =>
    simp only [exExp, Bool.and_eq_true] at h
    obtain ⟨hc, hr⟩ := h
    simp only [rfTail, hc, if_true]
    cases r with
    | nil => cases hr
    | cons d r' =>
      simp only at hr
      unfold rfSigned
      by_cases hs : d = 43 ∨ d = 45
      · rw [if_pos hs] at hr
        cases r' with
        | nil => cases hr
        | cons e r'' =>
          simp only [Bool.and_eq_true] at hr
          have hx := rfExpEnd_some hr.1 hr.2
          rcases hs with rfl | rfl
          · simp only [if_true]; exact map_ne hx
          · simp only
            rw [if_neg (by decide), if_pos trivial]
            exact map_ne hx
      · rw [if_neg hs] at hr
        simp only [Bool.and_eq_true] at hr
        obtain ⟨h1, h2, _, _⟩ := dig_not d hr.1
        simp only
        rw [if_neg h1, if_neg h2]
        exact map_ne (rfExpEnd_some hr.1 hr.2)

theorem digit_dot (s : RS) (c : UInt8) : (s.digit c).dot = s.dot ∧ (s.digit c).dig = true := by
  unfold RS.digit
  split
  · exact ⟨rfl, rfl⟩
  · split
    · exact ⟨rfl, rfl⟩
    · exact ⟨rfl, rfl⟩

theorem rfD_skip : ∀ (l : List UInt8) (st : RS), ∃ st', rfDigits st l = rfDigits st' (l.dropWhile isDig) ∧ st'.dot = st.dot ∧ (st.dig = true → st'.dig = true)
  | [], st => ⟨st, rfl, rfl, id⟩
  | c :: r, st => by
    rw [List.dropWhile_cons]
    cases hd : isDig c with
    | false => exact ⟨st, rfl, rfl, id⟩
    | true =>
      obtain ⟨_, _, h46, _⟩ := dig_not c hd
      obtain ⟨h1, h2⟩ := digit_dot st c
      obtain ⟨st', e1, e2, e3⟩ := rfD_skip r (st.digit c)
      refine ⟨st', ?_, e2.trans h1, fun _ => e3 h2⟩
      rw [rfDigits, if_neg h46, if_pos hd]
      simpa using e1

theorem rfD_exp {l : List UInt8} (h : exExp l = true) (st : RS) : rfDigits st l = (st, l) := by
  cases l with
  | nil => rfl
  | cons c r =>
    simp only [exExp, Bool.and_eq_true] at h
    obtain ⟨h1, h2⟩ := exp_not c h.1
    rw [rfDigits, if_neg h1, if_neg (by simp [h2])]

theorem rfBody_of {l : List UInt8} {st : RS} (h : rfDigits .zero l = (st, (rfDigits .zero l).2)) (hd : st.dig = true) (ht : rfTail (rfDigits .zero l).2 ≠ none) : rfBody l ≠ none := by
  unfold rfBody
  rw [h]
  simp only [hd, if_true]
  exact map_ne ht

theorem exInt_body {l : List UInt8} (h : exInt l ≠ none) : rfBody l ≠ none := by
  cases l with
  | nil => exact absurd rfl h
  | cons c r =>
    simp only [exInt] at h
    cases hc : isDig c with
    | false => rw [hc] at h; simp at h
    | true =>
      rw [hc] at h
      simp only [if_true] at h
      have hf : exFrac (r.dropWhile isDig) = true := by
        cases hx : exFrac (r.dropWhile isDig) with
        | true => rfl
        | false => rw [hx] at h; simp at h
      obtain ⟨_, _, h46, _⟩ := dig_not c hc
      obtain ⟨h1, h2⟩ := digit_dot RS.zero c
      obtain ⟨st, e1, e2, e3⟩ := rfD_skip r (RS.zero.digit c)
      have e0 : rfDigits .zero (c :: r) = rfDigits st (r.dropWhile isDig) := by
        rw [rfDigits, if_neg h46, if_pos hc, e1]
      have hst := e3 h2
      have hdot : st.dot = false := e2.trans h1
      have fin : ∀ (st : RS) (l' : List UInt8), st.dig = true → rfDigits .zero (c :: r) = (st, l') → rfTail l' ≠ none → rfBody (c :: r) ≠ none := by
        intro st l' h1 h2 h3
        unfold rfBody
        rw [h2]
        simp only [h1, if_true]
        exact map_ne h3
      cases hl : r.dropWhile isDig with
      | nil =>
        rw [hl] at e0
        exact fin st [] hst e0 (by simp [rfTail])
      | cons x y =>
        rw [hl] at hf e0
        simp only [exFrac] at hf
        by_cases hx : x = 46
        · rw [if_pos hx] at hf
          cases y with
          | nil => cases hf
          | cons d z =>
            simp only [Bool.and_eq_true] at hf
            have e4 : rfDigits st (46 :: d :: z) = rfDigits { st with dot := true, dp := st.nd } (d :: z) := by rw [rfDigits, if_pos rfl, if_neg (by simp [hdot])]
            rw [hx, e4] at e0
            obtain ⟨st2, f1, f2, f3⟩ := rfD_skip (d :: z) { st with dot := true, dp := st.nd }
            rw [f1, List.dropWhile_cons, if_pos hf.1, rfD_exp hf.2] at e0
            exact fin st2 _ (f3 hst) e0 (exExp_tail hf.2)
        · rw [if_neg hx] at hf
          rw [rfD_exp hf] at e0
          exact fin st _ hst e0 (exExp_tail hf)

theorem exNum_rf {l : List UInt8} (h : exNum l ≠ none) : rf l ≠ none := by
  cases l with
  | nil => exact absurd rfl h
  | cons c r =>
    simp only [exNum] at h
    simp only [rf]
    by_cases hc : c = 45
    · rw [if_pos hc] at h
      rw [if_pos hc]
      exact map_ne (exInt_body h)
    · rw [if_neg hc] at h
      rw [if_neg hc]
      exact map_ne (exInt_body h)

theorem step_num : ∀ s : _root_.Fin 8, ∀ k : _root_.Fin 256, (match numStep s.val (UInt8.ofNat k.val) with | .go s' => isNumC (UInt8.ofNat k.val) && decide (s' ≤ 7) | _ => true) = true := by decide +kernel

theorem numFin_all : ∀ (l : List UInt8) (s s' : Nat), s ≤ 7 → numFin s l = some s' → ∀ c ∈ l, isNumC c = true
  | [], _, _, _, _, c, hc => by cases hc
  | x :: r, s, s', hs, h, c, hc => by
    have := byte_all (p := fun c => (match numStep s c with | .go s' => isNumC c && decide (s' ≤ 7) | _ => true) = true) (step_num ⟨s, by omega⟩) x
    simp only [numFin] at h
    cases hn : numStep s x with
    | go s2 =>
      rw [hn] at h this
      simp only [Bool.and_eq_true, decide_eq_true_eq] at this
      rcases List.mem_cons.1 hc with rfl | hc
      · exact this.1
      · exact numFin_all r s2 s' this.2 h c hc
    | done => rw [hn] at h; cases h
    | bad => rw [hn] at h; cases h

theorem exNum_all {l : List UInt8} (h : exNum l ≠ none) : ∀ c ∈ l, isNumC c = true := by
  cases l with
  | nil => exact absurd rfl h
  | cons c r =>
    have hc : c = 45 ∨ isDig c = true := by
      simp only [exNum] at h
      by_cases hc : c = 45
      · exact .inl hc
      · rw [if_neg hc] at h
        simp only [exInt] at h
        cases hd : isDig c with
        | true => exact .inr rfl
        | false => rw [hd] at h; simp at h
    rw [numFin_start c hc] at h
    have h7 : numStart c ≤ 7 := by unfold numStart; split <;> (try split) <;> omega
    cases hf : numFin (numStart c) r with
    | none => rw [hf] at h; simp at h
    | some s =>
      intro x hx
      rcases List.mem_cons.1 hx with rfl | hx
      · unfold isNumC
        rcases hc with rfl | hc
        · decide
        · simp [hc]
      · exact numFin_all r _ s h7 hf x hx

end Go.Proofs.YtdabllkphibfmaaGreatDoor

/- ParseFloat at every number's text: one answer. -/
namespace Go.Proofs.YtdabllkphibfmaaGreatDoor
open Go Go.RowKit
set_option linter.unusedSimpArgs false
set_option linter.unusedVariables false

theorem rfDigits_lim : ∀ (l : List UInt8) (st : RS) (i : Nat), st.Ok i → (rfDigits st l).1.m ≤ 9999999999999999999
  | [], st, i, h => h.lim2
  | c :: r, st, i, h => by
    rw [rfDigits]
    split
    · split
      · exact h.lim2
      · exact rfDigits_lim r _ _ h.pt
    · split
      · rename_i hc
        exact rfDigits_lim r _ _ (h.digit c hc)
      · exact h.lim2

theorem rf_lim {l : List UInt8} {m : Nat} {e : Int} {neg tr : Bool} (h : rf l = some (m, e, neg, tr)) : m < 18446744073709551616 := by
  have fin : ∀ (l : List UInt8) (p : Nat × Int × Bool), rfBody l = some p → p.1 < 18446744073709551616 := by
    intro l p hb
    have := rfDigits_lim l .zero 0 RS.Ok.start
    unfold rfBody at hb
    simp only at hb
    split at hb
    · obtain ⟨x, _, rfl⟩ := Option.map_eq_some_iff.1 hb
      simp only
      omega
    · cases hb
  cases l with
  | nil => cases h
  | cons c r =>
    simp only [rf] at h
    split at h
    · obtain ⟨p, h1, h2⟩ := Option.map_eq_some_iff.1 h
      have := fin _ _ h1
      simp only [Prod.mk.injEq] at h2
      omega
    · obtain ⟨p, h1, h2⟩ := Option.map_eq_some_iff.1 h
      have := fin _ _ h1
      simp only [Prod.mk.injEq] at h2
      omega

/-- What the library's variables hold, all that ParseFloat reads. -/
structure AllVars (w0 : World) : Prop where
  flo : FloVars w0
  num : NumVars w0
  tab : TabOk w0
  dec : ∃ D C P a c b cb, Fb D C P w0.heap.size w0 a c b cb

theorem atof64_any (w0 : World) (hv : AllVars w0) (s : ByteArray) (hal : ∀ c ∈ s.data.toList, isNumC c = true) (hl : s.size ≤ 1000000) (hr : rf s.data.toList ≠ none) : ∃ (b : Nat) (r : Bool), ∀ w, Old w0 w → Calls Tryz.prog 78 #[.string s] w (AfR b r s.size w) := by
  obtain ⟨D, C, P, a, c, pb, cb, hfb⟩ := hv.dec
  cases hrf : rf s.data.toList with
  | none => exact absurd hrf hr
  | some x =>
    obtain ⟨m, e, neg, tr⟩ := x
    have hm := rf_lim hrf
    by_cases hm0 : m = 0
    · subst hm0
      exact ⟨_, false, fun w ho => (atof64_zero s hal hl w0 hv.flo w ho e neg tr hrf).mono fun _ _ h => AfR.of h⟩
    by_cases h1 : 310 < e
    · obtain ⟨b, hb⟩ := atof64_over s w0 hal hl hv.flo m hm0 e h1 neg tr hrf
      exact ⟨b, true, hb⟩
    by_cases h2 : e < -345
    · exact ⟨_, false, fun w ho => (atof64_under s w0 hal hl hv.flo m hm0 e h2 neg tr hrf w ho).mono fun _ _ h => AfR.of h⟩
    obtain ⟨b, r, hp⟩ := pf64 w0 hv.tab m hm e ⟨by omega, by omega⟩ (sgI neg)
    cases tr with
    | false =>
      cases hx : exactF m e neg with
      | some b' => exact ⟨b', false, fun w ho => (atof64_exact s hal hl w0 hv.flo w ho m hm0 hm e (by omega) (by omega) neg b' hrf hx).mono fun _ _ h => AfR.of h⟩
      | none => exact ⟨b, r, fun w ho => atof64_tab s w0 hal hl hv.flo m hm0 hm e (by omega) (by omega) neg hrf hx b r hp w ho⟩
    | true =>
      obtain ⟨m1, hm1, hm1b⟩ := wrap_range ((m : Int) + 1)
      obtain ⟨b1, r1, hp1⟩ := pf64 w0 hv.tab m1 hm1b e ⟨by omega, by omega⟩ (sgI neg)
      cases hq : (FloatKind.f64.format.order b b1 == some Ordering.eq) with
      | true => exact ⟨b, r, fun w ho => atof64_eq s w0 hal hl hv.flo m hm0 e (by omega) (by omega) neg hrf b r hp m1 hm1 b1 r1 hp1 hq w ho⟩
      | false => exact atof64_slow s w0 hal hl hv.flo hfb m hm0 e (by omega) (by omega) neg hrf b r hp m1 hm1 b1 r1 hp1 hq

theorem pfPrefixR (s : ByteArray) (b : Nat) (r : Bool) (w : World) (h : Calls Tryz.prog 78 #[.string s] w (AfR b r s.size w)) : Calls Tryz.prog 55 #[.string s, .int .i64 64] w (AfR b r s.size w) := by
  have H := Lib.hid h
  clear h
  go_enter Tryz.func55, Tryz.ntmps55
  go_wp2_with (first | (go_at_call 78; refine (H.out).mono ?_; rintro e w1 ⟨rfl, hb1⟩; have HB1 := Lib.hid hb1; clear hb1))
  go_ret3
  exact ⟨rfl, HB1.out⟩

def Pf2R (b : Nat) (r : Bool) (w : World) (e : Ending) (w' : World) : Prop := e = .returned (.tuple #[.float .f64 b, errR r]) ∧ Below w.heap.size w w'

theorem pfInnerR (s : ByteArray) (b : Nat) (r : Bool) (w : World) (h : Calls Tryz.prog 78 #[.string s] w (AfR b r s.size w)) : Calls Tryz.prog 40 #[.string s, .int .i64 64] w (Pf2R b r w) := by
  have H := Lib.hid (pfPrefixR s b r w h)
  clear h
  go_enter Tryz.func40, Tryz.ntmps40
  go_wp2_with (first | (go_at_call 55; refine (H.out).mono ?_; rintro e w1 ⟨rfl, hb1⟩; have HB1 := Lib.hid hb1; clear hb1))
  go_ret2
  exact ⟨rfl, HB1.out⟩

theorem pfOuterR (w0 : World) (hv : NumVars w0) (s : ByteArray) (hl : s.size ≤ 1000000) (b : Nat) (r : Bool) (w : World) (ho : Old w0 w) (h : Calls Tryz.prog 78 #[.string s] w (AfR b r s.size w)) : Calls Tryz.prog 28 #[.string s, .int .i64 64] w (PfPost w.heap.size w (if r then none else some b)) := by
  obtain ⟨_, ⟨t5, y5, h5⟩⟩ := hv
  cases r with
  | false =>
    show Calls Tryz.prog 28 #[.string s, .int .i64 64] w (PfPost w.heap.size w (some b))
    have H : Hid (Calls Tryz.prog 40 #[.string s, .int .i64 64] w (fun e w' => e = .returned (.tuple #[.float .f64 b, .nilIface]) ∧ Below w.heap.size w w')) := Lib.hid (pfInnerR s b false w h)
    clear h
    go_enter Tryz.func28, Tryz.ntmps28
    go_wp2_with (first | (go_at_call 40; refine (H.out).mono ?_; rintro e w1 ⟨rfl, hb1⟩; have HB1 := Lib.hid hb1; clear hb1))
    go_ret2
    exact ⟨⟨_, _, rfl, rfl, rfl⟩, HB1.out⟩
  | true =>
    show Calls Tryz.prog 28 #[.string s, .int .i64 64] w (PfPost w.heap.size w none)
    have H : Hid (Calls Tryz.prog 40 #[.string s, .int .i64 64] w (fun e w' => e = .returned (.tuple #[.float .f64 b, .iface 124 (.int .i64 1)]) ∧ Below w.heap.size w w')) := Lib.hid (pfInnerR s b true w h)
    have HO := Lib.hid ho
    have H5 := Lib.hid h5
    clear h ho h5
    go_enter Tryz.func28, Tryz.ntmps28
    go_wp2_with (first | (go_at_call 40; refine (H.out).mono ?_; rintro e w1 ⟨rfl, hb1⟩; have HB1 := Lib.hid hb1; clear hb1) | (go_at_call 41; refine (Tryz.strconv_toError_range _ s 0 64 _ _ (by omega) ((HO.out.below HB1.out HO.out.size).cell H5.out) (.inr ⟨_, _, rfl⟩)).mono ?_; rintro e w2 ⟨N, rfl, _, _, hb2⟩; have HB2 := Lib.hid hb2; clear hb2))
    go_ret2
    exact ⟨⟨_, _, rfl, _, _, rfl⟩, HB1.out.trans (HB2.out.mono HB1.out.size)⟩

/-- There is an answer for each number's text. -/
theorem pf_exists (w0 : World) (hv : AllVars w0) : ∃ pf : PF, PfC w0 pf ∧ ∀ txt : List UInt8, exNum txt ≠ none → txt.length ≤ 1000000 → pf txt ≠ none := by
  classical
  have h : ∀ txt : List UInt8, exNum txt ≠ none ∧ txt.length ≤ 1000000 → ∃ r : Option Nat, ∀ w, Old w0 w → Calls Tryz.prog 28 #[.string ⟨txt.toArray⟩, .int .i64 64] w (PfPost w.heap.size w r) := by
    rintro txt ⟨h1, h2⟩
    have hl : (⟨txt.toArray⟩ : ByteArray).size ≤ 1000000 := by simpa [ByteArray.size] using h2
    obtain ⟨b, r, hb⟩ := atof64_any w0 hv ⟨txt.toArray⟩ (exNum_all h1) hl (exNum_rf h1)
    exact ⟨_, fun w ho => pfOuterR w0 hv.num _ hl b r w ho (hb w ho)⟩
  refine ⟨fun txt => if hc : exNum txt ≠ none ∧ txt.length ≤ 1000000 then some (Classical.choose (h txt hc)) else none, ?_, ?_⟩
  · intro txt w r ho hr
    by_cases hc : exNum txt ≠ none ∧ txt.length ≤ 1000000
    · dsimp only at hr
      rw [dif_pos hc] at hr
      injection hr with hr
      subst hr
      exact Classical.choose_spec (h txt hc) w ho
    · dsimp only at hr
      rw [dif_neg hc] at hr
      cases hr
  · intro txt h1 h2
    dsimp only
    rw [dif_pos ⟨h1, h2⟩]
    simp

end Go.Proofs.YtdabllkphibfmaaGreatDoor
