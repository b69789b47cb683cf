/- ExtMarks, by its contract. -/
import Derived.Test.YtdabllkphibfmaaGreatDoorGn
namespace Go.Proofs.YtdabllkphibfmaaGreatDoor
open Go Go.RowKit PFnExtTokens Go.Proofs.YtdabllkphibfmaaGreatDoorW.PrintWords
set_option linter.unusedSimpArgs false
set_option linter.unusedVariables false

theorem info3 : (Tryz.prog.info? 3).map (fun i => (i.zero, i.size, i.bytes)) = some (some (.int .i64 0), 1, 8) := by kernel_rfl

/-- What gap gives. -/
def GapPost (g : Nat) (code : List Int) (w0 w : World) (e : Ending) (w' : World) : Prop :=
  ∃ (t : ByteArray) (p' : Int), e = .returned (.string t) ∧ Blanks t.data.toList ∧ t.size ≤ 2 ∧ AtOk code p' ∧ IsS67 w0 w' g code p' false false ∧ Below w0.heap.size w0 w' ∧ KeepBut w w' g none

theorem gap_call {g : Nat} {code : List Int} {p : Int} {w0 w : World} (h : AtOk code p) (hc : ∀ x ∈ code, 0 ≤ x ∧ x ≤ 255) (hI : IsS67 w0 w g code p false false) (hB : Below w0.heap.size w0 w) : Calls Tryz.prog 24 #[.pointer (some ⟨g, 0, none⟩)] w (GapPost g code w0 w) := by
  obtain ⟨t, p', h1, h2, h3, h4⟩ := gap_ok h hc false
  refine (spec_extStyle_gap.calls g code p false false t p' false false w0 w hI hB h1).mono ?_
  rintro e w' ⟨rfl, a, b, c⟩
  exact ⟨t, p', rfl, h3, h4, h2, a, b, c⟩

/-- The state at the loop's head. -/
def ME (w : World) (code : List Int) (ms : List Mk) (n : Nat) (ov v i : Value) (wx : World) : Prop :=
  ∃ (k : Nat) (o : ByteArray) (pls : List Nat) (p : Int), k ≤ ms.length ∧ n = ms.length - k ∧ i = .int .i64 k ∧ ov = .string o ∧ o.size ≤ 2 + 42 * k ∧ pls.length = k ∧ Done ms k o.data.toList pls ∧ AtOk code p ∧
    IsS67 w wx w.heap.size code p false false ∧ wx.ownsRow (w.heap.size + 1) 3 1 v k (pls.map fun q : Nat => .int .i64 q) ∧ Below w.heap.size w wx

/-- The state behind the gap. -/
def MG (w wr : World) (code : List Int) (ms : List Mk) (k : Nat) (o : ByteArray) (v : Value) (pls : List Nat) (m : Mk) (ov : Value) (wx : World) : Prop :=
  ∃ (t : ByteArray) (p : Int), ov = .string (o ++ t) ∧ Blanks t.data.toList ∧ t.size ≤ 2 ∧ GapOk (prevKind ms k) (ms.drop k) t.data.toList ∧ AtOk code p ∧ IsS67 w wx w.heap.size code p false false ∧
    wx.ownsRow (w.heap.size + 1) 3 1 v k (pls.map fun q : Nat => .int .i64 q) ∧ Below w.heap.size w wx ∧ wx.heap[wr.heap.size]? = some (.cells (mkCells m).toArray 41 (0, 0))

/-- The cells of the mark k. -/
theorem own_far {w : World} {B : Nat} {v : Value} {n : Nat} {xs : List Value} {e k : Nat} (h : w.ownsRow (B + 1) e k v n xs) : v.ownBlock ≠ some B := fun hq => by have := (h.lt B hq).1; omega

theorem mg_none {w wr w2 : World} {code : List Int} {ms : List Mk} {k : Nat} {o : ByteArray} {v : Value} {pls : List Nat} {m : Mk} {p : Int} {cs : List Value} (hI : IsS67 w w2 w.heap.size code p false false) (hp : AtOk code p) (hb : Below w.heap.size w w2)
    (ho : w2.ownsRow (w.heap.size + 1) 3 1 v k (pls.map fun q : Nat => .int .i64 q)) (hblk : w2.heap[wr.heap.size]? = some (.cells cs.toArray 41 (0, 0))) (hcs : mkCells m = cs) (hk : k = 0) : MG w wr code ms k o v pls m (.string o) w2 := by
  subst hcs hk
  refine ⟨ByteArray.empty, p, by simp, fun c hc => by simp at hc, by simp, ?_, hp, hI, ho, hb, hblk⟩
  cases ms with
  | nil => trivial
  | cons m ms => exact fun h => absurd h (by simp [prevKind])

theorem mg_some {w wr w2 : World} {code : List Int} {ms : List Mk} {k : Nat} {o t : ByteArray} {v : Value} {pls : List Nat} {m : Mk} {p : Int} {cs : List Value} (hI : IsS67 w w2 w.heap.size code p false false) (hp : AtOk code p) (hb : Below w.heap.size w w2)
    (ho : w2.ownsRow (w.heap.size + 1) 3 1 v k (pls.map fun q : Nat => .int .i64 q)) (hblk : w2.heap[wr.heap.size]? = some (.cells cs.toArray 41 (0, 0))) (hcs : mkCells m = cs) (ht : Blanks t.data.toList) (hts : t.size ≤ 2) (hg : GapOk (prevKind ms k) (ms.drop k) t.data.toList) : MG w wr code ms k o v pls m (.string (o ++ t)) w2 := by
  subst hcs
  exact ⟨t, p, rfl, ht, hts, hg, hp, hI, ho, hb, hblk⟩

theorem gap_ok_of {ms : List Mk} {j : Nat} {t : List UInt8} {m : Mk} {K K2 : Nat} (hj : j + 1 < ms.length) (hm : m = ms[j + 1]'hj) (hK : K = m.kind) (hK2 : K2 = (ms[j]'(by omega)).kind) (h : t ≠ [] ∨ ¬ 6 ≤ K2 ∨ K = 1 ∨ K = 3 ∨ K = 5) : GapOk (prevKind ms (j + 1)) (ms.drop (j + 1)) t := by
  have hd : ms.drop (j + 1) = ms[j + 1]'hj :: ms.drop (j + 1 + 1) := List.drop_eq_getElem_cons hj
  have hp : prevKind ms (j + 1) = K2 := by
    unfold prevKind
    rw [if_neg (by omega), Nat.add_sub_cancel, List.getElem?_eq_getElem (by omega), hK2]
    rfl
  rw [hd, hp, ← hm]
  intro h1 h2 h3 h4
  rw [← hK] at h2 h3 h4
  rcases h with h | h | h | h | h
  · exact h
  · exact absurd h1 h
  · exact absurd h h2
  · exact absurd h h3
  · exact absurd h h4

theorem keep_own {w w1 : World} {g B e k n : Nat} {v : Value} {xs : List Value} (h : KeepBut w w1 g none) (ho : w.ownsRow B e k v n xs) (hf : v.ownBlock ≠ some g) : w1.ownsRow B e k v n xs :=
  h.own ho hf (by cases hq : v.ownBlock <;> simp)

theorem IsS67.blk {w0 W : World} {g : Nat} {f0 : List Int} {f1 : Int} {f2 : Bool} {f3 : Bool} (h : IsS67 w0 W g f0 f1 f2 f3) : ∃ o, W.heap[g]? = some o := by
  obtain ⟨A0, c0, h, _⟩ := h
  exact ⟨_, h⟩

theorem blk_grown {w w3 : World} {o : Obj} {g B e k n : Nat} {v : Value} {xs : List Value} {cs : Array Value} {t : TypeId} (hb : w.heap[g]? = some (.cells cs t (0, 0))) (ho : w.ownsRow B e k v n xs) (hg : (w.alloc o).grownBy w3 v.ownBlock) (ht : t ≠ e) : w3.heap[g]? = some (.cells cs t (0, 0)) := by
  rw [hg.block g (by have := lt_of_heap hb; simp; omega) ?_, Below.heap_alloc _ _ _ (lt_of_heap hb), hb]
  intro h
  obtain ⟨_, cur, hc⟩ := ownBlock_at' ho g h.symm
  rw [hb] at hc
  simp at hc
  exact ht hc.2

theorem me_step {w wc w3 : World} {code : List Int} {ms : List Mk} {k : Nat} {o t ot bb : ByteArray} {v : Value} {pls : List Nat} {m : Mk} {p : Int} {ob : Obj} {gg cap : Nat} (hk : k < ms.length) (hm : m = ms[k]'hk) (hbb : bb = ⟨m.body.toArray⟩) (hol : o.size ≤ 2 + 42 * k) (hsz : ot.size ≤ 2 + 42 * k + 2) (hbs : bb.size ≤ 40) (hpl : pls.length = k) (hd : Done ms k o.data.toList pls) (hot : ot = o ++ t)
    (ht : Blanks t.data.toList) (hg : GapOk (prevKind ms k) (ms.drop k) t.data.toList) (hp : AtOk code p) (hI : IsS67 w wc w.heap.size code p false false) (hb : Below w.heap.size w wc) (ho : wc.ownsRow (w.heap.size + 1) 3 1 v k (pls.map fun q : Nat => .int .i64 q))
    (ho3 : w3.ownsRow (w.heap.size + 1) 3 1 (.slice (some ⟨gg, 0, none⟩) (k + 1) cap) (k + 1) ((pls.map fun q : Nat => .int .i64 q) ++ [.int .i64 ot.size])) (hgr : (wc.alloc ob).grownBy w3 v.ownBlock) :
    ME w code ms (ms.length - (k + 1)) (.string (ot ++ bb)) (.slice (some ⟨gg, 0, none⟩) (k + 1) cap) (.int .i64 (k + 1)) w3 := by
  subst hot hbb hpl
  have hs := done_step hk hd ht hg
  rw [← hm] at hs
  have hne : some w.heap.size ≠ v.ownBlock := fun h => own_far ho h.symm
  refine ⟨pls.length + 1, (o ++ t) ++ ⟨m.body.toArray⟩, pls ++ [(o ++ t).size], p, hk, rfl, by simp, rfl, ?_, by simp, ?_, hp, (hI.alloc ob).grown hgr hne, ?_, (hb.alloc hb.size _).grown hgr (by simp; have := hb.size; omega) (fun q hq => by have := (ho.lt q hq).1; omega)⟩
  · rw [ByteArray.size_append]; omega
  · have e1 : ((o ++ t) ++ ⟨m.body.toArray⟩ : ByteArray).data.toList = o.data.toList ++ t.data.toList ++ m.body := by simp
    have e2 : (o ++ t).size = o.data.toList.length + t.data.toList.length := by simp
    rw [e1, e2]
    exact hs
  · simpa using ho3

theorem me_end {w wr w2 : World} {ms : List Mk} {k : Nat} {o t : ByteArray} {v : Value} {pls : List Nat} (hol : o.size ≤ 2 + 42 * k) (hts : t.size ≤ 2) (hk : k = ms.length) (hpl : pls.length = k) (hd : Done ms k o.data.toList pls) (ht : Blanks t.data.toList) (hkb : KeepBut wr w2 w.heap.size none) (hb : Below w.heap.size w w2)
    (ho : wr.ownsRow (w.heap.size + 1) 3 1 v k (pls.map fun q : Nat => .int .i64 q)) (hl : ms.length ≤ 100) : ∃ (s : ByteArray) (pl : List Nat) (v' : Value), Ending.returned (.tuple #[.string (o ++ t), v]) = .returned (.tuple #[.string s, v']) ∧ Parts 0 0 ms s.data.toList pl ∧ s.size ≤ 5000 ∧ pl.length = ms.length ∧ w2.ownsRow (w.heap.size + 1) 3 1 v' ms.length (pl.map fun q : Nat => .int .i64 q) ∧ Below w.heap.size w w2 := by
  subst hk
  refine ⟨o ++ t, pls, v, rfl, ?_, by rw [ByteArray.size_append]; omega, hpl, keep_own hkb ho (own_far ho), hb⟩
  have := done_end hd ht
  simpa using this

theorem row_mark {w : World} {B : Nat} {ao : Option Addr} {n cap : Nat} {ms : List Mk} (h : w.ownsRow B 41 4 (.slice ao n cap) ms.length (ms.flatMap mkCells)) (k : Nat) (hk : k < ms.length) :
    ∃ gb, ao = some ⟨gb, 0, none⟩ ∧ gb < w.heap.size ∧ ∀ j, j < 4 → w.cell? ⟨gb, k * 4 + j, none⟩ = (mkCells (ms[k]'hk))[j]? := by
  rcases h.2 with ⟨_, h0⟩ | ⟨g, cap', cur, hv, hb, hh, _, _, _, hr⟩
  · omega
  · injection hv with h1 h2 h3
    refine ⟨g, h1, lt_of_heap hh, fun j hj => ?_⟩
    have h1 := flatMap_get mkCells 4 (fun _ => rfl) ms k hk j hj
    rw [← hr, List.getElem?_take, if_pos (by have : (k + 1) * 4 ≤ ms.length * 4 := Nat.mul_le_mul_right 4 hk; omega)] at h1
    rw [← h1]
    simp [World.cell?, hh]

set_option maxRecDepth 1000000 in
set_option maxHeartbeats 40000000 in
theorem extMarksText (ms : List Mk) (hms : ∀ x ∈ ms, IsMk x) (hl : ms.length ≤ 100) (code : List Int) (A : Option Addr) (c : Nat) (ao : Option Addr) (cap B : Nat) (w : World) (hA : Kd.C (Kd.int .u8) w A code.length code) (hcode : ∀ x ∈ code, 0 ≤ x ∧ x ≤ 255) (hcl : code.length ≤ 1000000)
    (hrow : w.ownsRow B 41 4 (.slice ao ms.length cap) ms.length (ms.flatMap mkCells)) :
    Calls Tryz.prog 13 #[.slice ao ms.length cap, .slice A code.length c] w fun e w' => ∃ (s : ByteArray) (pl : List Nat) (v : Value), e = .returned (.tuple #[.string s, v]) ∧ Parts 0 0 ms s.data.toList pl ∧ s.size ≤ 5000 ∧ pl.length = ms.length ∧ w'.ownsRow (w.heap.size + 1) 3 1 v ms.length (pl.map fun q : Nat => .int .i64 q) ∧ Below w.heap.size w w' := by
  have hI := IsS67.new w w A c code 0 false false (Below.refl _ w) hA
  have hg0 := gap_call ⟨by decide, hcl⟩ hcode hI ((Below.refl _ w).alloc (Nat.le_refl _) _)
  have HG0 := Lib.hid hg0
  have HR := Lib.hid hrow
  have HC := Lib.hid hcode
  have HM := Lib.hid hms
  clear hI hg0 hrow hcode hms hA
  obtain ⟨i0, hi0, hz0, hz1, hz2⟩ := info_parts info3
  go_enter Tryz.func13, Tryz.ntmps13
  go_wp2_with (first | (go_at_call 24; refine (HG0.out).mono ?_; rintro e w1 ⟨t0, p0, rfl, ht0, hl0, hp0, hI0, hb0, hk0⟩; have HI0 := Lib.hid hI0; have HB0 := Lib.hid hb0; have HT0 := Lib.hid ht0; have HP0 := Lib.hid hp0; clear hI0 hb0 hk0 ht0 hp0))
  go_loopg [7, 8, 19] ms.length (fun m ov v i wx => Aside (ME w code ms m ov v i wx))
  case atStart =>
    exact ⟨0, t0, [], p0, by omega, by omega, rfl, rfl, by omega, rfl, done_start ms _ HT0.out, HP0.out, HI0.out, World.ownsRow_nil _ _ _ _, HB0.out⟩
  case round =>
    obtain ⟨k, o, pls, p, hk, hm, rfl, rfl, hol, hpl, hdone, hp, hI, hown, hbel⟩ := hrel.out
    clear hrel
    have HM1 := Lib.hid hm
    have HPL := Lib.hid hpl
    have HD := Lib.hid hdone
    have HP := Lib.hid hp
    have HI := Lib.hid hI
    have HOWN := Lib.hid hown
    have HBEL := Lib.hid hbel
    clear hm hpl hdone hp hI hown hbel
    by_cases hkn : k < ms.length
    · obtain ⟨gb, rfl, hgb, hcells⟩ := row_mark HR.out k hkn
      have hc := hcells
      clear hcells
      obtain ⟨m, hm⟩ : ∃ m, m = ms[k]'hkn := ⟨_, rfl⟩
      rw [← hm] at hc
      have HMm := Lib.hid hm
      have hmk : IsMk m := by rw [hm]; exact HM.out _ (List.getElem_mem hkn)
      clear hm
      obtain ⟨K, hK⟩ : ∃ K, K = m.kind := ⟨_, rfl⟩
      obtain ⟨bb, hbb⟩ : ∃ bb : ByteArray, bb = ⟨m.body.toArray⟩ := ⟨_, rfl⟩
      obtain ⟨tt, htt⟩ : ∃ tt : ByteArray, tt = ⟨m.text.toArray⟩ := ⟨_, rfl⟩
      have hmc : mkCells m = [.int .i64 K, .string bb, .string tt, .int .i64 m.n] := by rw [hK, hbb, htt]; rfl
      rw [hmc] at hc
      have hc0 := hc 0 (by decide)
      have hc1 := hc 1 (by decide)
      have hc2 := hc 2 (by decide)
      have hc3 := hc 3 (by decide)
      simp only [Nat.add_zero, List.getElem?_cons_zero, List.getElem?_cons_succ] at hc0 hc1 hc2 hc3
      have hd0 := (HBEL.out.cell (p := ⟨gb, k * 4, none⟩) hgb).trans hc0
      have hd1 := (HBEL.out.cell (p := ⟨gb, k * 4 + 1, none⟩) hgb).trans hc1
      have hd2 := (HBEL.out.cell (p := ⟨gb, k * 4 + 2, none⟩) hgb).trans hc2
      have hd3 := (HBEL.out.cell (p := ⟨gb, k * 4 + 3, none⟩) hgb).trans hc3
      clear hc hc0 hc1 hc2 hc3
      have hbs : bb.size ≤ 40 := by rw [hbb]; have := body_len hmk; simpa [ByteArray.size] using this
      have HK := Lib.hid hK
      have HBB := Lib.hid hbb
      have HMC := Lib.hid hmc
      clear hK hbb htt hmc
      go_upto_if 25 with fail
      go_cut [7] (fun ov wx => Aside (MG w wr code ms k o u8 pls m ov wx))
      case first =>
        rcases k with _ | j
        · as_aux_lemma =>
          go_wp2
          go_meet
          refine mg_none (HI.out.alloc _) HP.out (HBEL.out.alloc HBEL.out.size _) (HOWN.out.alloc _) (heap_alloc_new _ _) HMC.out rfl
        · obtain ⟨_, he, _, hpc⟩ := row_mark HR.out j (by omega)
          cases he
          have hq0 := hpc 0 (by decide)
          clear hpc
          obtain ⟨K2, hK2⟩ : ∃ K2, K2 = (ms[j]'(by omega)).kind := ⟨_, rfl⟩
          simp only [mkCells, Nat.add_zero, List.getElem?_cons_zero] at hq0
          rw [← hK2] at hq0
          have HK2 := Lib.hid hK2
          clear hK2
          go_wp2_with fail
          refine (gap_call HP.out HC.out (HI.out.alloc _) (HBEL.out.alloc HBEL.out.size _)).mono ?_
          rintro e w2 ⟨t, p2, rfl, ht, hts, hp2, hI2, hb2, hkb⟩
          have hown2 := keep_own hkb (HOWN.out.alloc _) (own_far HOWN.out)
          have hblk2 := hkb.blk (heap_alloc_new _ _) (by have := HBEL.out.size; obtain ⟨_, hh⟩ := IsS67.blk HI.out; have := lt_of_heap hh; omega) (by simp)
          have hq2 := (hb2.cell (p := ⟨gb, j * 4, none⟩) hgb).trans hq0
          obtain ⟨d0, d1, d2, d3, df⟩ := cell4 hblk2
          have HT := Lib.hid ht
          have HP2 := Lib.hid hp2
          have HI2 := Lib.hid hI2
          have HB2 := Lib.hid hb2
          have HOWN2 := Lib.hid hown2
          have HBLK2 := Lib.hid hblk2
          have hj1 : ((j + 1 : Nat) : Int) - 1 = j := by omega
          clear ht hp2 hI2 hb2 hown2 hblk2 hkb hq0 HI HBEL HOWN
          as_aux_lemma =>
          go_wp2_with fail
          all_goals go_meet
          all_goals first
            | exact mg_some HI2.out HP2.out HB2.out HOWN2.out HBLK2.out HMC.out (by unfold Blanks; decide) (by decide) (gap_ok_of hkn HMm.out HK.out HK2.out (.inl (by simp)))
            | exact mg_some HI2.out HP2.out HB2.out HOWN2.out HBLK2.out HMC.out HT.out hts (gap_ok_of hkn HMm.out HK.out HK2.out (by first | exact .inr (.inl (by omega)) | exact .inr (.inr (.inl (by omega))) | exact .inr (.inr (.inr (.inl (by omega)))) | (left; rename_i h; rwa [ByteArray.toList_eq] at h) | (refine .inr (.inr ?_); rename_i h; simp at h; omega)))
      case rest =>
        obtain ⟨t, p2, rfl, ht, hts, hg, hp2, hI2, hown2, hb2, hblk2⟩ := hcut.out
        clear hcut
        have hsz : (o ++ t).size ≤ 2 + 42 * k + 2 := by rw [ByteArray.size_append]; omega
        obtain ⟨ot, hot⟩ : ∃ ot, ot = o ++ t := ⟨_, rfl⟩
        rw [HMC.out] at hblk2
        rw [← hot] at hsz ⊢
        have HOT := Lib.hid hot
        have HT := Lib.hid ht
        have HG := Lib.hid hg
        have HP2 := Lib.hid hp2
        have HI2 := Lib.hid hI2
        have HOWN2 := Lib.hid hown2
        have HB2 := Lib.hid hb2
        obtain ⟨d0, d1, d2, d3, df⟩ := cell4 hblk2
        have HBLK2 := Lib.hid hblk2
        have hb2s := hb2.size
        clear hot ht hg hp2 hI2 hown2 hb2 hblk2 hd0 hd1 hd2 hd3
        clear HI HP HBEL HOWN
        as_aux_lemma =>
        go_wp2_with (first | (at_builtin; refine wpList_append_lies _ (by rfl) _ _ _ (by rfl) (w.heap.size + 1) 3 i0 _ 1 8 Tryz.underlying37 hi0 hz0 hz1 hz2 rfl (by omega) u8 k (pls.map fun q : Nat => .int .i64 q) (by rfl) (HOWN2.out.alloc _) ⟨wc.heap.size, 0, none⟩ 1 1 [.int .i64 ot.size] (by rfl) (by rfl) (World.news_of_block (cs := #[.int .i64 ot.size]) (t := 3) (fr := (0, 0)) (heap_alloc_new' _ _ rfl)) (by simp [Value.oneCell']) (by omega) (by unfold maxLen; omega) (by omega) (by simp; omega) (wc.heap.size + 1) (by simp) ?_; intro gg cap3 w3 hown3 hgrow hat hlt; have hb3 := blk_grown HBLK2.out HOWN2.out hgrow (by decide); obtain ⟨z0, z1, z2, z3, zf⟩ := cell4 hb3; have HO3 := Lib.hid hown3; have HG3 := Lib.hid hgrow; clear hown3 hgrow hat hb3))
        have hrel2 := me_step (code := code) hkn HMm.out HBB.out hol hsz hbs HPL.out HD.out HOT.out HT.out HG.out HP2.out HI2.out HB2.out HOWN2.out HO3.out HG3.out
        have HR2 := Lib.hid hrel2
        clear hrel2
        go_wp2
        go_roundg (ms.length - (k + 1))
        case measure => have := HM1.out; omega
        case rel => exact HR2.out
    · have hke : k = ms.length := by omega
      have hke2 := Lib.hid hke
      clear hke
      have hge : ¬ (k : Int) < ms.length := by omega
      as_aux_lemma =>
      go_wp2_with (first | (go_at_call 24; refine (gap_call HP.out HC.out HI.out HBEL.out).mono ?_; rintro e w2 ⟨t, p2, rfl, ht, hts, hp2, hI2, hb2, hkb⟩; have HT := Lib.hid ht; have HB2 := Lib.hid hb2; have HKB := Lib.hid hkb; clear ht hp2 hI2 hb2 hkb))
      go_ret2
      exact me_end hol hts hke2.out HPL.out HD.out HT.out HKB.out HB2.out HOWN.out hl

end Go.Proofs.YtdabllkphibfmaaGreatDoor
