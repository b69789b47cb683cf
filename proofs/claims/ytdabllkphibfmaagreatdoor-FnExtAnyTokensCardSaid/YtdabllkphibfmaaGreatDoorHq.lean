/- FnExtAnyTokens: at every text the law answers true, and the text reads as it did: the tied card. Its conditions: the listed package-level variables lie as the program's text lays them (tied). -/
import Derived.Test.YtdabllkphibfmaaGreatDoorRdW
import Derived.Test.YtdabllkphibfmaaGreatDoorRows
import Derived.Test.YtdabllkphibfmaaGreatDoorFill
import Derived.ProofKit
import Derived.OpenShut
import Derived.ShutString
import Derived.ChangeOld
import Derived.ChangeSame
import Derived.ChangeVars
import Derived.LaidLaws
import Derived.LaidHandle
import Derived.Stop.LaidErr
import Derived.Lib.LaidU8
import Derived.Lay
import Derived.Test.YtdabllkphibfmaaGreatDoorFloE
import Derived.Test.YtdabllkphibfmaaGreatDoorHd
import Derived.Test.YtdabllkphibfmaaGreatDoorNumC
import Derived.Test.YtdabllkphibfmaaGreatDoorLitC
import Derived.Test.YtdabllkphibfmaaGreatDoorCards
import Derived.Test.YtdabllkphibfmaaGreatDoorTie
import Derived.SevenTiedAt
namespace Go.Proofs.YtdabllkphibfmaaGreatDoor
open Go Go.RowKit
set_option linter.unusedSimpArgs false
set_option linter.unusedVariables false

/-- What ExtTokensOf gives: of a text of which something is said, its tokens. -/
def OfPost (pf : PF) (s : ByteArray) (w : World) (e : Ending) (w' : World) : Prop :=
  ∃ (v : Value) (ok known : Bool) (ts : List (Nat × TV × Nat)), e = .returned (.tuple #[v, .bool ok, .bool known]) ∧ Below w.heap.size w w' ∧ w'.ownsRow (w.heap.size + 1) 29 5 v ts.length (ts.flatMap extCells) ∧ (known = true → TokR (numSub pf) litRun s.size s.data.toList ts ok)

/-- The state at the head of the loop. -/
def OfR (pf : PF) (s : ByteArray) (w : World) (m : Nat) (v : Value) (wx : World) : Prop :=
  ∃ (q : Nat) (ts : List (Nat × TV × Nat)), m = s.size - q ∧ q ≤ s.size ∧ ts.length ≤ q ∧ RdAt w.heap.size s q false wx ∧ Below w.heap.size w wx ∧ wx.ownsRow (w.heap.size + 1) 29 5 v ts.length (ts.flatMap extCells) ∧
    ∀ ts' ok', TokR (numSub pf) litRun s.size (s.data.toList.drop q) ts' ok' → TokR (numSub pf) litRun s.size s.data.toList (ts ++ ts') ok'

theorem own_fb {w1 w2 : World} {b base e k n : Nat} {v : Value} {xs : List Value} (h : w1.ownsRow base e k v n xs) (hf : Fb1 b w1 w2) (hb : b < base) : w2.ownsRow base e k v n xs :=
  ownsRow_of h fun k hk => hf.block k (h.lt k hk).2 (by have := (h.lt k hk).1; omega)

theorem fb_below {b : Nat} {w w1 w2 : World} (h : Below b w w1) (hf : Fb1 b w1 w2) (hb : b < w1.heap.size) : Below b w w2 :=
  ⟨hf.os.trans h.os, hf.tape.trans h.tape, hf.output.trans h.output, Nat.le_trans h.size hf.size, fun k hk => (hf.block k (by omega) (by omega)).trans (h.block k hk)⟩

theorem fb_row {b : Nat} {w w3 : World} (h : Fb1 b w w3) (o : Obj) (cs : Array Value) : Fb1 b w ((w3.alloc o).setRow w3.heap.size cs) := by
  have h2 := h.alloc o
  exact ⟨h2.os, h2.tape, h2.output, by simpa [World.setRow] using h2.size, fun k hk hn => (setRow_other _ _ _ _ (by have := h.size; omega)).trans (h2.block k hk hn)⟩

theorem rd_row {b : Nat} {s : ByteArray} {q : Nat} {far : Bool} {w3 : World} (h : RdAt b s q far w3) (o : Obj) (cs : Array Value) : RdAt b s q far ((w3.alloc o).setRow w3.heap.size cs) :=
  (setRow_other _ _ _ _ (by have := lt_of_heap h; omega)).trans (rd_alloc h o)

theorem of_start (pf : PF) (s : ByteArray) (w : World) : OfR pf s w s.size (.slice none 0 0) (w.alloc (.cells #[.string s, .int .i64 0, .bool false] 51)) :=
  ⟨0, [], rfl, by omega, by simp, heap_alloc_new w _, (Below.refl _ w).alloc (Nat.le_refl _) _, World.ownsRow_nil _ _ _ _, fun ts' ok' h => h⟩

/-- The end of the text. -/
theorem of_end {pf : PF} {s : ByteArray} {w wr w2 : World} {q q1 : Nat} {v : Value} {ts : List (Nat × TV × Nat)} (hbel : Below w.heap.size w wr) (hlt : w.heap.size < wr.heap.size) (hown : wr.ownsRow (w.heap.size + 1) 29 5 v ts.length (ts.flatMap extCells))
    (hrun : ∀ ts' ok', TokR (numSub pf) litRun s.size (s.data.toList.drop q) ts' ok' → TokR (numSub pf) litRun s.size s.data.toList (ts ++ ts') ok') (hd : s.data.toList.drop q1 = (s.data.toList.drop q).dropWhile isBlank) (hq1 : ¬ q1 < s.size) (hF : Fb1 w.heap.size wr w2) :
    OfPost pf s w (.returned (.tuple #[v, .bool true, .bool true])) w2 := by
  refine ⟨v, true, true, ts, rfl, fb_below hbel hF hlt, own_fb hown hF (by omega), fun _ => ?_⟩
  have h := hrun [] true (.nil (by rw [← hd]; exact List.drop_of_length_le (by show s.size ≤ q1; omega)))
  rwa [List.append_nil] at h

/-- What is no token. -/
theorem of_err {pf : PF} {s : ByteArray} {w wr w4 : World} {q q1 q2 : Nat} {v : Value} {ts : List (Nat × TV × Nat)} {c : UInt8} {far : Bool} {cs : Array Value} (hbel : Below w.heap.size w wr) (hlt : w.heap.size < wr.heap.size) (hown : wr.ownsRow (w.heap.size + 1) 29 5 v ts.length (ts.flatMap extCells))
    (hrun : ∀ ts' ok', TokR (numSub pf) litRun s.size (s.data.toList.drop q) ts' ok' → TokR (numSub pf) litRun s.size s.data.toList (ts ++ ts') ok') (hd : s.data.toList.drop q1 = (s.data.toList.drop q).dropWhile isBlank) (hq1 : q1 < s.size) (hc : s[q1]'hq1 = c) (hF : Fb1 w.heap.size wr w4)
    (hok : far = false → TokOk s q1 (tokAt (numSub pf) litRun c (s.data.toList.drop (q1 + 1))) cs false q2) :
    OfPost pf s w (.returned (.tuple #[v, .bool false, .bool (!far)])) w4 := by
  refine ⟨v, false, !far, ts, rfl, fb_below hbel hF hlt, own_fb hown hF (by omega), fun hk => ?_⟩
  have hf : far = false := by simpa using hk
  have h1 := hok hf
  have h := hrun [] false (.err (c := c) (r := s.data.toList.drop (q1 + 1)) (by rw [← hd, str_drop s q1 hq1, hc]) ?_)
  · rwa [List.append_nil] at h
  · cases hE : tokAt (numSub pf) litRun c (s.data.toList.drop (q1 + 1)) with
    | err => rfl
    | tok k x r => rw [hE] at h1; exact absurd h1.1 (by decide)
    | out => rw [hE] at h1; exact h1.elim

/-- A token more. -/
theorem of_more {pf : PF} (hp : ∀ txt, exNum txt ≠ none → txt.length ≤ 1000000 → pf txt ≠ none) {s : ByteArray} (hl : s.size ≤ 1000000) {w wr w4 w6 : World} {q q1 q2 gg cap : Nat} {v : Value} {o : Obj} {ts : List (Nat × TV × Nat)} {c : UInt8} {cs : Array Value} (hbel : Below w.heap.size w wr) (hlt : w.heap.size < wr.heap.size) (hown : wr.ownsRow (w.heap.size + 1) 29 5 v ts.length (ts.flatMap extCells))
    (hrun : ∀ ts' ok', TokR (numSub pf) litRun s.size (s.data.toList.drop q) ts' ok' → TokR (numSub pf) litRun s.size s.data.toList (ts ++ ts') ok') (htq : ts.length ≤ q) (hqq1 : q ≤ q1) (hd : s.data.toList.drop q1 = (s.data.toList.drop q).dropWhile isBlank) (hq1 : q1 < s.size) (hc : s[q1]'hq1 = c)
    (hok : TokOk s q1 (tokAt (numSub pf) litRun c (s.data.toList.drop (q1 + 1))) cs true q2) (hq2 : q2 ≤ s.size) (hR : RdAt w.heap.size s q2 false w4) (hF : Fb1 w.heap.size wr w4) (hG : (w4.alloc o).grownBy w6 v.ownBlock)
    (hO : w6.ownsRow (w.heap.size + 1) 29 5 (.slice (some ⟨gg, 0, none⟩) (ts.length + 1) cap) (ts.length + 1) (ts.flatMap extCells ++ cs.toList)) :
    q1 < q2 ∧ OfR pf s w (s.size - q2) (.slice (some ⟨gg, 0, none⟩) (ts.length + 1) cap) w6 := by
  have hr : ∀ k, v.ownBlock = some k → w.heap.size + 1 ≤ k := fun k hk => (hown.lt k hk).1
  cases hE : tokAt (numSub pf) litRun c (s.data.toList.drop (q1 + 1)) with
  | err => rw [hE] at hok; exact absurd (show true = false from hok) (by decide)
  | out => rw [hE] at hok; exact hok.elim
  | tok k x r =>
    rw [hE] at hok
    obtain ⟨_, rfl, hr2⟩ := hok
    have hin := tokAt_in pf hp c (s.data.toList.drop (q1 + 1)) (by rw [str_drop_len]; omega)
    rw [hE] at hin
    have hlen := hin.2.2
    rw [← hr2, str_drop_len, str_drop_len] at hlen
    have hq12 : q1 < q2 := by omega
    have hB : Below w.heap.size w w6 := by
      have h1 := fb_below hbel (hF.alloc o) hlt
      exact ⟨hG.os.trans h1.os, hG.tape.trans h1.tape, hG.output.trans h1.output, Nat.le_trans h1.size hG.size, fun k hk => (hG.block k (by have := h1.size; omega) (fun e => by have := hr k e.symm; omega)).trans (h1.block k hk)⟩
    refine ⟨hq12, q2, ts ++ [(k, x, q1)], rfl, hq2, by simp; omega, rd_grown (rd_alloc hR o) hG hr (by omega), hB, ?_, fun ts' ok' h => ?_⟩
    · rw [List.length_append, List.flatMap_append]
      simpa using hO
    · rw [List.append_assoc]
      refine hrun _ _ ?_
      have e := TokR.tok (num := numSub pf) (lit := litRun) (n := s.size) (l := s.data.toList.drop q) (c := c) (r := s.data.toList.drop (q1 + 1)) (by rw [← hd, str_drop s q1 hq1, hc]) hE (by rw [← hr2]; exact h)
      rw [str_drop_len] at e
      have e2 : s.size - (s.size - (q1 + 1) + 1) = q1 := by omega
      rw [e2] at e
      exact e

set_option maxRecDepth 1000000 in
set_option maxHeartbeats 8000000 in
theorem extTokensOf (pf : PF) (hp : ∀ txt, exNum txt ≠ none → txt.length ≤ 1000000 → pf txt ≠ none) (w0 : World) (hpf : PfC w0 pf) (s : ByteArray) (hl : s.size ≤ 1000000) (w : World) (ho : Old w0 w) :
    Calls Tryz.prog 8 #[.string s] w (OfPost pf s w) := by
  obtain ⟨i0, hi0, hz0, hz1, hz2⟩ := info_parts info29
  have HPF := Lib.hid hpf
  have HO := Lib.hid ho
  have HP := Lib.hid hp
  clear hpf ho hp
  go_enter Tryz.func8, Tryz.ntmps8
  go_wp2
  go_loopg [2] s.size (fun m v wx => Aside (OfR pf s w m v wx))
  case atStart => exact of_start pf s w
  case round =>
    obtain ⟨q, ts, rfl, hq, htq, hR, hbel, hown, hrun⟩ := hrel.out
    clear hrel
    have hsz := lt_of_heap hR
    have HR := Lib.hid hR
    have HBEL := Lib.hid hbel
    have HOWN := Lib.hid hown
    have HRUN := Lib.hid hrun
    clear hR hbel hown hrun
    go_upto_if 12 with (first | (go_at_call 16; refine (gap w.heap.size s q false _ HR.out hq hl).mono ?_; rintro e2 w2 ⟨q1, hqq1, hq1, hd1, rfl, hR1, hF1⟩; have HR1 := Lib.hid hR1; have HF1 := Lib.hid hF1; have HD1 := Lib.hid hd1; clear hR1 hF1 hd1))
    by_cases hlt : q1 < s.size
    · have hdt : decide (q1 < s.size) = true := decide_eq_true hlt
      obtain ⟨c, hc⟩ : ∃ c, s[q1]'hlt = c := ⟨_, rfl⟩
      have HTK := Lib.hid (token pf HP.out w0 HPF.out w.heap.size s hl q1 hlt c hc w2 (HO.out.below (fb_below HBEL.out HF1.out hsz) HO.out.size) HO.out.size HR1.out)
      have HC := Lib.hid hc
      clear hc
      go_upto_if 19 with (first | (go_at_call 17; refine HTK.out.mono ?_; rintro e3 w3 ⟨_, ok, far2, q2, rfl, ⟨K, txt, N, B, At, rfl⟩, hq2, hR2, hF2, hfar, hok⟩; have HR2 := Lib.hid hR2; have HF2 := Lib.hid hF2; have HFR := Lib.hid hfar; have HOK := Lib.hid hok; clear hR2 hF2 hfar hok) | (refine wpList_store_row rfl 29 (.tmp 6) (.tmp 16) rfl _ (tcells K txt N B At) rfl rfl 29 (tcells 0 ⟨#[]⟩ 0 0 0) (heap_alloc_new _ _) size29 rfl (tcells_one _ _ _ _ _) ?_))
      generalize hW4 : (World.alloc w3 _).setRow w3.heap.size (tcells K txt N B At) = W4
      have hR4 : RdAt w.heap.size s q2 far2 W4 := by rw [← hW4]; exact rd_row HR2.out _ _
      have hF4 : Fb1 w.heap.size wr W4 := by rw [← hW4]; exact fb_row (HF1.out.trans HF2.out) _ _
      have hrow : W4.heap[w3.heap.size]? = some (.cells #[.int .i64 K, .string txt, .int .i64 N, .int .u64 B, .int .i64 At] 29 (0, 0)) := by rw [← hW4]; exact setRow_heap _ _ _ _ _ _ (heap_alloc_new _ _)
      have HR4 := Lib.hid hR4
      have HF4 := Lib.hid hF4
      have HROW := Lib.hid hrow
      clear hW4 hR4 hF4 hrow
      cases ok with
      | false =>
        obtain ⟨c0, c1, c2, cf⟩ := cell3 HR4.out
        as_aux_lemma =>
        go_wp2
        go_quiet (fail)
        go_wp2
        go_ret3
        exact of_err HBEL.out hsz HOWN.out HRUN.out HD1.out hlt HC.out (fb_n HF4.out _) HOK.out
      | true =>
        have hfar : far2 = false := by
          cases far2 with
          | false => rfl
          | true => exact absurd (HFR.out rfl) (by decide)
        subst hfar
        have HOK2 := Lib.hid (HOK.out rfl)
        have hszW : wr.heap.size ≤ W4.heap.size := HF4.out.size
        have HOW4 := Lib.hid (own_fb HOWN.out HF4.out (by omega))
        go_wp2_with (first | (refine wpList_load_row rfl 29 (.tmp 6) rfl _ rfl 29 #[.int .i64 K, .string txt, .int .i64 N, .int .u64 B, .int .i64 At] (0, 0) _ HROW.out Tryz.underlying29 rfl size29 ?_) | (at_builtin; refine wpList_append_lies _ (by rfl) _ _ _ (by rfl) (w.heap.size + 1) 29 i0 _ 5 48 Tryz.underlying22 hi0 hz0 hz1 hz2 rfl (by omega) u2 ts.length (ts.flatMap extCells) (by rfl) (HOW4.out.alloc _) ⟨W4.heap.size, 0, none⟩ 1 1 [.int .i64 K, .string txt, .int .i64 N, .int .u64 B, .int .i64 At] (by rfl) (by rfl) (World.news_of_block (cs := #[.int .i64 K, .string txt, .int .i64 N, .int .u64 B, .int .i64 At]) (t := 29) (fr := (0, 0)) (heap_alloc_new W4 _)) (by simp [Value.oneCell']) (by omega) (by unfold maxLen; omega) (by omega) (by simp; omega) (W4.heap.size + 1) (by simp) ?_; intro gg cap3 w6 hown6 hgrow hat hlt6; have HO6 := Lib.hid hown6; have HG6 := Lib.hid hgrow; clear hown6 hgrow hat))
        have hfin := of_more HP.out hl HBEL.out hsz HOWN.out HRUN.out htq hqq1 HD1.out hlt HC.out HOK2.out hq2 HR4.out HF4.out HG6.out HO6.out
        have hq12 := hfin.1
        have HFIN := Lib.hid hfin.2
        clear hfin
        go_roundg (s.size - q2)
        case measure => omega
        case rel => exact HFIN.out
    · have hdt : decide (q1 < s.size) = false := decide_eq_false hlt
      go_wp2
      go_ret3
      exact of_end HBEL.out hsz HOWN.out HRUN.out HD1.out hlt HF1.out

end Go.Proofs.YtdabllkphibfmaaGreatDoor

/- What the rows' listed variables give a walk: io.EOF's cell. -/
namespace Go.Proofs.YtdabllkphibfmaaGreatDoor
open Go Go.ChangeShapes Go.WideShapes Go.ChangeAt Go.RowKit

theorem own : ownKnob Tryz.prog.godebug = none := by kernel_rfl
theorem laidOut : laidOutB Tryz.prog = true := by kernel_rfl
theorem gEOF : Tryz.prog.globalNamed "io.EOF" = some 1 := by kernel_rfl
theorem gEOFType : (Tryz.prog.globals[1]?).map (·.type) = some 57 := by kernel_rfl
theorem cells152 : Tryz.prog.cellsOf 152 = 1 := by kernel_rfl
theorem cells9 : Tryz.prog.cellsOf 9 = 1 := by kernel_rfl
theorem starE : "*" ++ "errors.errorString" = "*errors.errorString" := by decide
theorem row150 (u : TypeId) (h : Tryz.prog.typeName? 3 u = some "*errors.errorString") : u = 150 :=
  typeName_ptr_named (nm := "errors.errorString") (by rw [starE]; kernel_rfl) (by kernel_rfl) (by decide) u (by rw [starE]; exact h)

theorem laidMet_drop {P : Program} {w : World} : ∀ (n : Nat) {l : List (String × DataW Unit)}, laidMet P l w → laidMet P (l.drop n) w
  | 0, _, h => h
  | _ + 1, [], h => h
  | n + 1, _ :: _, h => laidMet_drop n h.tail

/-- io.EOF's cell. -/
theorem eof_of_laid {W : World} {l r : List (String × DataW Unit)} (n : Nat) (h : laidMet Tryz.prog l W) (hl : l.drop n = ("io.EOF", Rows.laid_io_EOF) :: r) : ∃ ea, W.cell? ⟨1, 0, none⟩ = some (EOFv ea) := by
  have h2 := laidMet_drop n h
  rw [hl] at h2
  obtain ⟨a, s, hv, _, _, _⟩ := laid_sentinel h2 gEOF gEOFType Tryz.underlying57 row150 Tryz.underlying150 Tryz.underlying152 rfl rfl Tryz.underlying9 cells152 cells9
  exact ⟨a, by simpa using World.var?_cell gEOF hv 0⟩

end Go.Proofs.YtdabllkphibfmaaGreatDoor

/- What the rows' listed tables give a walk: ParseFloat's variables. -/
namespace Go.Proofs.YtdabllkphibfmaaGreatDoor
open Go Go.ChangeShapes Go.WideShapes Go.ChangeAt Go.RowKit

theorem gOpt : Tryz.prog.globalNamed "internal/strconv.optimize" = some 7 := by kernel_rfl
theorem gInfo : Tryz.prog.globalNamed "internal/strconv.float64info" = some 8 := by kernel_rfl
theorem gTab : Tryz.prog.globalNamed "internal/strconv.float64pow10" = some 14 := by kernel_rfl
theorem gOptType : (Tryz.prog.globals[7]?).map (·.type) = some 4 := by kernel_rfl
theorem gInfoType : (Tryz.prog.globals[8]?).map (·.type) = some 179 := by kernel_rfl
theorem gTabType : (Tryz.prog.globals[14]?).map (·.type) = some 220 := by kernel_rfl
theorem cells62 : Tryz.prog.cellsOf 62 = 1 := by kernel_rfl
theorem cells70 : Tryz.prog.cellsOf 70 = 1 := by kernel_rfl

theorem tab_data : (Rows.laid_internal_strconv_float64pow10 : DataW Unit) = .slice ((List.range 23).map fun i => .lit (.float .f64 (p10 i))) [] := by kernel_rfl

theorem bool_of_trod {enc : TypeId × Value → Unit} {W : World} {fuel : Nat} {cs : List Value} {b : Bool} {p : List MemPlace} (h : DataW.trod enc Tryz.prog W 0 (fun _ => true) false fuel 4 cs = some (.lit (.bool b), p)) : cs = [.bool b] := by
  obtain ⟨b', h1, h2⟩ := DataW.trod_bool Tryz.underlying4 h
  simp only [Prod.mk.injEq, DataW.lit.injEq, Lit.bool.injEq] at h2
  rw [h1, h2.1]

theorem trod_float {H : Type} {enc : TypeId × Value → H} {P : Program} {W : World} {base : Nat} {sp : Nat → Bool} {held : Bool} {fuel : Nat} {t : TypeId} {k : FloatKind} {cs : List Value} {x : DataW H × List MemPlace} (ht : P.underlying t = some (.float k))
    (h : DataW.trod enc P W base sp held fuel t cs = some x) : ∃ b, cs = [.float k b] ∧ x = (.lit (.float k b), []) := by
  cases fuel with
  | zero => simp [DataW.trod] at h
  | succ n =>
    unfold DataW.trod at h
    rw [ht] at h
    split at h <;> simp_all

theorem opt_of_reads {W : World} (h : Lib.VarReads Tryz.prog W "internal/strconv.optimize" (.lit (.bool true))) : W.cell? ⟨7, 0, none⟩ = some (.bool true) := by
  obtain ⟨g, t, cs, fuel, p, hg, hty, hvar, hd⟩ := h
  obtain rfl := Option.some.inj (gOpt.symm.trans hg)
  obtain rfl := Option.some.inj (gOptType.symm.trans hty)
  have hcs := bool_of_trod hd
  have := World.var?_cell hg hvar 0
  rw [this, ← Array.getElem?_toList, hcs]
  rfl

theorem info_of_reads {W : World} (h : Lib.VarReads Tryz.prog W "internal/strconv.float64info" Rows.laid_internal_strconv_float64info) : W.cell? ⟨8, 0, none⟩ = some (.int .u64 52) := by
  obtain ⟨g, t, cs, fuel, p, hg, hty, hvar, hd⟩ := h
  obtain rfl := Option.some.inj (gInfo.symm.trans hg)
  obtain rfl := Option.some.inj (gInfoType.symm.trans hty)
  obtain ⟨xs, n, rfl, hx, hl, hxl, hall⟩ := DataW.trod_struct Tryz.underlying179 hd
  have h0 : DataW.trod (fun _ => ()) Tryz.prog W 0 (fun _ => true) false n 70 (List.take (Tryz.prog.cellsOf 70) (List.drop 0 cs.toList)) = xs[0]? := hall 0 _ rfl
  rw [cells70, List.drop_zero] at h0
  have hx1 : xs.map (·.1) = [.lit (.int .u64 52), .lit (.int .u64 11), .lit (.int .i64 (-1023))] := by
    have := congrArg Prod.fst hx
    simpa [Rows.laid_internal_strconv_float64info] using this.symm
  cases xs with
  | nil => simp at hx1
  | cons e xs =>
    simp only [List.getElem?_cons_zero] at h0
    obtain ⟨z, hz, he, _⟩ := DataW.trod_int Tryz.underlying70 h0
    simp only [List.map_cons, List.cons.injEq] at hx1
    have h1 := hx1.1
    rw [he] at h1
    simp only [DataW.lit.injEq, Lit.int.injEq, true_and] at h1
    subst h1
    have h2 := congrArg (·[0]?) hz
    simp only [List.getElem?_take, List.getElem?_cons_zero] at h2
    rw [if_pos (by decide)] at h2
    have := World.var?_cell hg hvar 0
    rw [this, ← Array.getElem?_toList, h2]

theorem tab_of_reads {W : World} (h : Lib.VarReads Tryz.prog W "internal/strconv.float64pow10" Rows.laid_internal_strconv_float64pow10) : ∃ a c, W.cell? ⟨14, 0, none⟩ = some (.slice (some a) 23 c) ∧ ∀ i, i < 23 → W.cell? (a.add i) = some (.float .f64 (p10 i)) := by
  rw [tab_data] at h
  obtain ⟨g, t, cs, fuel, p, hg, hty, hvar, hd⟩ := h
  obtain rfl := Option.some.inj (gTab.symm.trans hg)
  obtain rfl := Option.some.inj (gTabType.symm.trans hty)
  rcases DataW.trod_slice Tryz.underlying220 hd with ⟨_, hx⟩ | ⟨a, len, cap, elems, rest, n, rfl, hcs, hx, _, _, _, hlen, hel, _, _⟩
  · cases hx
  · have hx1 := congrArg Prod.fst hx
    simp only [DataW.slice.injEq] at hx1
    have hl23 : elems.length = 23 := by
      have := congrArg List.length hx1.1
      simpa using this.symm
    have hlen2 : len = 23 := by omega
    subst hlen2
    refine ⟨a, cap, ?_, fun i hi => ?_⟩
    · have := World.var?_cell hg hvar 0
      rw [this, ← Array.getElem?_toList, hcs]
      rfl
    · have h1 := hel i hi
      rw [cells62, Nat.mul_one] at h1
      obtain ⟨e, he⟩ : ∃ e, elems[i]? = some e := ⟨_, List.getElem?_eq_getElem (by omega)⟩
      rw [he] at h1
      obtain ⟨cs1, hc1, hd1⟩ := Option.bind_eq_some_iff.1 h1
      obtain ⟨b, rfl, rfl⟩ := trod_float Tryz.underlying62 hd1
      have h2 : (elems.map (·.1))[i]? = some (DataW.lit (.float .f64 b)) := by rw [List.getElem?_map, he]; rfl
      rw [← hx1.1, List.getElem?_map, List.getElem?_range hi] at h2
      simp only [Option.map_some, Option.some.injEq, DataW.lit.injEq, Lit.float.injEq, true_and] at h2
      rw [h2]
      exact cell_of_cells?_one hc1

theorem flo_of_laid {W : World} {l : List (String × DataW Unit)} (h : laidMet Tryz.prog l W) (h1 : ("internal/strconv.optimize", Rows.laid_internal_strconv_optimize) ∈ l) (h2 : ("internal/strconv.float64info", Rows.laid_internal_strconv_float64info) ∈ l) (h3 : ("internal/strconv.float64pow10", Rows.laid_internal_strconv_float64pow10) ∈ l) : FloVars W :=
  ⟨info_of_reads (Lib.laidMet.reads h h2), opt_of_reads (Lib.laidMet.reads h h1), tab_of_reads (Lib.laidMet.reads h h3)⟩

theorem gSyn : Tryz.prog.globalNamed "strconv.ErrSyntax" = some 4 := by kernel_rfl
theorem gRan : Tryz.prog.globalNamed "strconv.ErrRange" = some 5 := by kernel_rfl
theorem gSynType : (Tryz.prog.globals[4]?).map (·.type) = some 57 := by kernel_rfl
theorem gRanType : (Tryz.prog.globals[5]?).map (·.type) = some 57 := by kernel_rfl

theorem syn_of_laid {W : World} {l r : List (String × DataW Unit)} (n : Nat) (h : laidMet Tryz.prog l W) (hl : l.drop n = ("strconv.ErrSyntax", Rows.laid_strconv_ErrSyntax) :: r) : ∃ t y, W.cell? ⟨4, 0, none⟩ = some (.iface t y) := by
  have h2 := laidMet_drop n h
  rw [hl] at h2
  obtain ⟨a, s, hv, _, _, _⟩ := laid_sentinel h2 gSyn gSynType Tryz.underlying57 row150 Tryz.underlying150 Tryz.underlying152 rfl rfl Tryz.underlying9 cells152 cells9
  exact ⟨_, _, by simpa using World.var?_cell gSyn hv 0⟩
theorem ran_of_laid {W : World} {l r : List (String × DataW Unit)} (n : Nat) (h : laidMet Tryz.prog l W) (hl : l.drop n = ("strconv.ErrRange", Rows.laid_strconv_ErrRange) :: r) : ∃ t y, W.cell? ⟨5, 0, none⟩ = some (.iface t y) := by
  have h2 := laidMet_drop n h
  rw [hl] at h2
  obtain ⟨a, s, hv, _, _, _⟩ := laid_sentinel h2 gRan gRanType Tryz.underlying57 row150 Tryz.underlying150 Tryz.underlying152 rfl rfl Tryz.underlying9 cells152 cells9
  exact ⟨_, _, by simpa using World.var?_cell gRan hv 0⟩

end Go.Proofs.YtdabllkphibfmaaGreatDoor

/- What the rows' listed tables give a walk: all that ParseFloat reads. -/
namespace Go.Proofs.YtdabllkphibfmaaGreatDoor
open Go Go.ChangeShapes Go.WideShapes Go.ChangeAt Go.RowKit
set_option linter.unusedSimpArgs false
set_option linter.unusedVariables false

theorem gPt : Tryz.prog.globalNamed "internal/strconv.powtab" = some 13 := by kernel_rfl
theorem gPow : Tryz.prog.globalNamed "internal/strconv.pow10Tab" = some 15 := by kernel_rfl
theorem gLc : Tryz.prog.globalNamed "internal/strconv.leftcheats" = some 16 := by kernel_rfl
theorem gPtType : (Tryz.prog.globals[13]?).map (·.type) = some 37 := by kernel_rfl
theorem gPowType : (Tryz.prog.globals[15]?).map (·.type) = some 226 := by kernel_rfl
theorem gLcType : (Tryz.prog.globals[16]?).map (·.type) = some 237 := by kernel_rfl
theorem cells3 : Tryz.prog.cellsOf 3 = 1 := by kernel_rfl
theorem cells27 : Tryz.prog.cellsOf 27 = 1 := by kernel_rfl
theorem cells225 : Tryz.prog.cellsOf 225 = 2 := by kernel_rfl
theorem cells236 : Tryz.prog.cellsOf 236 = 2 := by kernel_rfl

theorem add_block (a : Addr) (i : Nat) : (a.add i).block = a.block := by unfold Addr.add; split <;> rfl

/-- A struct of two cells, by its fields. -/
theorem trod_two {W : World} {fuel : Nat} {t : TypeId} {cs : List Value} {x : DataW Unit × List MemPlace} {f0 f1 : Field} {enc : TypeId × Value → Unit} {d0 d1 : DataW Unit} {q : List MemPlace} (ht : Tryz.prog.underlying t = some (.struct #[f0, f1])) (ho0 : f0.offset = 0) (ho1 : f1.offset = 1) (hc0 : Tryz.prog.cellsOf f0.type = 1) (hc1 : Tryz.prog.cellsOf f1.type = 1)
    (h : DataW.trod enc Tryz.prog W 0 (fun _ => true) false fuel t cs = some (.agg [d0, d1], q)) :
    ∃ n p0 p1, DataW.trod enc Tryz.prog W 0 (fun _ => true) false n f0.type (cs.take 1) = some (d0, p0) ∧ DataW.trod enc Tryz.prog W 0 (fun _ => true) false n f1.type ((cs.drop 1).take 1) = some (d1, p1) := by
  obtain ⟨xs, n, rfl, hx, hl, hxl, hall⟩ := DataW.trod_struct ht h
  have hx1 : xs.map (·.1) = [d0, d1] := by
    have := congrArg Prod.fst hx
    simpa using this.symm
  match xs, hx1, hall with
  | [e0, e1], hx1, hall =>
    simp only [List.map_cons, List.map_nil, List.cons.injEq, and_true] at hx1
    obtain ⟨h0, h1⟩ := hx1
    have a0 := hall 0 f0 rfl
    have a1 := hall 1 f1 rfl
    rw [ho0, hc0, List.drop_zero] at a0
    rw [ho1, hc1] at a1
    exact ⟨n, e0.2, e1.2, a0.trans (by simp [← h0]), a1.trans (by simp [← h1])⟩

theorem int_trod {W : World} {fuel : Nat} {t : TypeId} {k : IntKind} {cs : List Value} {enc : TypeId × Value → Unit} {z : Int} {q : List MemPlace} (ht : Tryz.prog.underlying t = some (.int k)) (h : DataW.trod enc Tryz.prog W 0 (fun _ => true) false fuel t cs = some (.lit (.int k z), q)) : cs = [.int k z] ∧ (Lit.int k z).wf = true := by
  obtain ⟨n, h1, h2, h3⟩ := DataW.trod_int ht h
  simp only [Prod.mk.injEq, DataW.lit.injEq, Lit.int.injEq, true_and] at h2
  obtain ⟨rfl, _⟩ := h2
  exact ⟨h1, h3⟩

theorem pow_data : Rows.laid_internal_strconv_pow10Tab = DataW.agg (Go.Pinned.pow10Rows.map fun x => DataW.agg [.lit (.int .u64 x.1), .lit (.int .u64 x.2)]) := rfl

theorem tab10_of_reads {W : World} (h : Lib.VarReads Tryz.prog W "internal/strconv.pow10Tab" Rows.laid_internal_strconv_pow10Tab) (h15 : 15 < W.heap.size) : TabOk W := by
  refine ⟨h15, fun i hi => ?_⟩
  rw [pow_data] at h
  obtain ⟨g, t, cs, fuel, p, hg, hty, hvar, hd⟩ := h
  obtain rfl := Option.some.inj (gPow.symm.trans hg)
  obtain rfl := Option.some.inj (gPowType.symm.trans hty)
  obtain ⟨fuel', d, q, hdi, he⟩ := Lib.array_elem Tryz.underlying226 hd i hi
  rw [List.getElem?_map] at hdi
  obtain ⟨x, hx, rfl⟩ := Option.map_eq_some_iff.1 hdi
  obtain ⟨n, p0, p1, a0, a1⟩ := trod_two (x := (.nil, [])) Tryz.underlying225 rfl rfl cells27 cells27 he
  obtain ⟨b0, w0⟩ := int_trod Tryz.underlying27 a0
  obtain ⟨b1, w1⟩ := int_trod Tryz.underlying27 a1
  rw [cells225] at b0 b1
  have c0 := congrArg (·[0]?) b0
  have c1 := congrArg (·[0]?) b1
  simp only [List.getElem?_take, List.getElem?_drop, List.getElem?_cons_zero, Nat.add_zero] at c0 c1
  rw [if_pos (by decide), if_pos (by decide)] at c0 c1
  refine ⟨x.1, x.2, ?_, ?_, ?_, ?_⟩
  · simp [Lit.wf, IntKind.min, IntKind.max, IntKind.signed, IntKind.bits] at w0
    omega
  · simp [Lit.wf, IntKind.min, IntKind.max, IntKind.signed, IntKind.bits] at w1
    omega
  · have := World.var?_cell hg hvar (i * 2)
    rw [this, ← Array.getElem?_toList, c0]
  · have := World.var?_cell hg hvar (i * 2 + 1)
    rw [this, ← Array.getElem?_toList, c1]

/-- The table of powers of two, and of leftShift. -/
def ptN (i : Nat) : Nat := [1, 3, 6, 9, 13, 16, 19, 23, 26].getD i 1
def lcD (k : Nat) : Nat := (Go.Pinned.cheatRows.getD k (0, [])).1
def lcC (k : Nat) : List UInt8 := (Go.Pinned.cheatRows.getD k (0, [])).2

theorem pt_data : (Rows.laid_internal_strconv_powtab : DataW Unit) = .slice ((List.range 9).map fun i => .lit (.int .i64 (ptN i : Nat))) [] := by kernel_rfl
theorem lc_data : Rows.laid_internal_strconv_leftcheats = DataW.slice ((List.range 61).map fun i => DataW.agg [.lit (.int .i64 (lcD i : Nat)), .lit (.string (lcC i))]) [] := by kernel_rfl

theorem pt_of_reads {W : World} (h : Lib.VarReads Tryz.prog W "internal/strconv.powtab" Rows.laid_internal_strconv_powtab) : ∃ a c, W.cell? ⟨13, 0, none⟩ = some (.slice (some a) 9 c) ∧ ∀ i, i < 9 → W.cell? (a.add i) = some (.int .i64 (ptN i : Nat)) := by
  rw [pt_data] at h
  obtain ⟨g, t, cs, fuel, p, hg, hty, hvar, hd⟩ := h
  obtain rfl := Option.some.inj (gPt.symm.trans hg)
  obtain rfl := Option.some.inj (gPtType.symm.trans hty)
  rcases DataW.trod_slice Tryz.underlying37 hd with ⟨_, hx⟩ | ⟨a, len, cap, elems, rest, n, rfl, hcs, hx, _, _, _, hlen, hel, _, _⟩
  · cases hx
  · have hx1 := congrArg Prod.fst hx
    simp only [DataW.slice.injEq] at hx1
    have hl9 : elems.length = 9 := by
      have := congrArg List.length hx1.1
      simpa using this.symm
    have hlen2 : len = 9 := by omega
    subst hlen2
    refine ⟨a, cap, ?_, fun i hi => ?_⟩
    · have := World.var?_cell hg hvar 0
      rw [this, ← Array.getElem?_toList, hcs]
      rfl
    · have h1 := hel i hi
      rw [cells3, Nat.mul_one] at h1
      obtain ⟨e, he⟩ : ∃ e, elems[i]? = some e := ⟨_, List.getElem?_eq_getElem (by omega)⟩
      rw [he] at h1
      obtain ⟨cs1, hc1, hd1⟩ := Option.bind_eq_some_iff.1 h1
      obtain ⟨e1, e2⟩ := e
      have h2 : (elems.map (·.1))[i]? = some e1 := by rw [List.getElem?_map, he]; rfl
      rw [← hx1.1, List.getElem?_map, List.getElem?_range hi] at h2
      simp only [Option.map_some, Option.some.injEq] at h2
      subst h2
      obtain ⟨rfl, _⟩ := int_trod Tryz.underlying3 hd1
      exact cell_of_cells?_one hc1

theorem lc_of_reads {W : World} (h : Lib.VarReads Tryz.prog W "internal/strconv.leftcheats" Rows.laid_internal_strconv_leftcheats) : ∃ a c, W.cell? ⟨16, 0, none⟩ = some (.slice (some a) 61 c) ∧ ∀ k, k < 61 → W.cell? (a.add (k * 2)) = some (.int .i64 (lcD k : Nat)) ∧ W.cell? ⟨(a.add (k * 2)).block, (a.add (k * 2)).off + 1, none⟩ = some (.string ⟨(lcC k).toArray⟩) := by
  rw [lc_data] at h
  obtain ⟨g, t, cs, fuel, p, hg, hty, hvar, hd⟩ := h
  obtain rfl := Option.some.inj (gLc.symm.trans hg)
  obtain rfl := Option.some.inj (gLcType.symm.trans hty)
  rcases DataW.trod_slice Tryz.underlying237 hd with ⟨_, hx⟩ | ⟨a, len, cap, elems, rest, n, rfl, hcs, hx, _, _, _, hlen, hel, _, _⟩
  · cases hx
  · have hx1 := congrArg Prod.fst hx
    simp only [DataW.slice.injEq] at hx1
    have hl61 : elems.length = 61 := by
      have := congrArg List.length hx1.1
      simpa using this.symm
    have hlen2 : len = 61 := by omega
    subst hlen2
    refine ⟨a, cap, ?_, fun i hi => ?_⟩
    · have := World.var?_cell hg hvar 0
      rw [this, ← Array.getElem?_toList, hcs]
      rfl
    · have h1 := hel i hi
      rw [cells236] at h1
      obtain ⟨e, he⟩ : ∃ e, elems[i]? = some e := ⟨_, List.getElem?_eq_getElem (by omega)⟩
      rw [he] at h1
      obtain ⟨cs1, hc1, hd1⟩ := Option.bind_eq_some_iff.1 h1
      obtain ⟨e1, e2⟩ := e
      have h2 : (elems.map (·.1))[i]? = some e1 := by rw [List.getElem?_map, he]; rfl
      rw [← hx1.1, List.getElem?_map, List.getElem?_range hi] at h2
      simp only [Option.map_some, Option.some.injEq] at h2
      subst h2
      obtain ⟨m, p0, p1, a0, a1⟩ := trod_two (x := (.nil, [])) Tryz.underlying236 rfl rfl cells3 cells9 hd1
      obtain ⟨b0, _⟩ := int_trod Tryz.underlying3 a0
      obtain ⟨s, b1, b2, _⟩ := DataW.trod_string Tryz.underlying9 a1
      simp only [Prod.mk.injEq, DataW.lit.injEq, Lit.string.injEq] at b2
      have hs := World.cells?_some hc1
      have c0 := congrArg (·[0]?) b0
      have c1 := congrArg (·[0]?) b1
      simp only [List.getElem?_take, List.getElem?_drop, List.getElem?_cons_zero, Nat.add_zero] at c0 c1
      rw [if_pos (by decide)] at c0 c1
      rw [b2.1]
      exact ⟨(hs.2.2 0 (by decide)).trans c0, (show W.cell? ⟨(a.add (i * 2)).block, (a.add (i * 2)).off + 1, none⟩ = W.cell? ((a.add (i * 2)).add 1) from rfl).trans ((hs.2.2 1 (by decide)).trans c1)⟩

theorem trod_three {W : World} {fuel : Nat} {t : TypeId} {cs : List Value} {f0 f1 f2 : Field} {enc : TypeId × Value → Unit} {d0 d1 d2 : DataW Unit} {q : List MemPlace} (ht : Tryz.prog.underlying t = some (.struct #[f0, f1, f2])) (ho0 : f0.offset = 0) (ho1 : f1.offset = 1) (ho2 : f2.offset = 2) (hc0 : Tryz.prog.cellsOf f0.type = 1) (hc1 : Tryz.prog.cellsOf f1.type = 1) (hc2 : Tryz.prog.cellsOf f2.type = 1)
    (h : DataW.trod enc Tryz.prog W 0 (fun _ => true) false fuel t cs = some (.agg [d0, d1, d2], q)) :
    ∃ n p0 p1 p2, DataW.trod enc Tryz.prog W 0 (fun _ => true) false n f0.type (cs.take 1) = some (d0, p0) ∧ DataW.trod enc Tryz.prog W 0 (fun _ => true) false n f1.type ((cs.drop 1).take 1) = some (d1, p1) ∧ DataW.trod enc Tryz.prog W 0 (fun _ => true) false n f2.type ((cs.drop 2).take 1) = some (d2, p2) := by
  obtain ⟨xs, n, rfl, hx, hl, hxl, hall⟩ := DataW.trod_struct ht h
  have hx1 : xs.map (·.1) = [d0, d1, d2] := by
    have := congrArg Prod.fst hx
    simpa using this.symm
  match xs, hx1, hall with
  | [e0, e1, e2], hx1, hall =>
    simp only [List.map_cons, List.map_nil, List.cons.injEq, and_true] at hx1
    obtain ⟨h0, h1, h2⟩ := hx1
    have a0 := hall 0 f0 rfl
    have a1 := hall 1 f1 rfl
    have a2 := hall 2 f2 rfl
    rw [ho0, hc0, List.drop_zero] at a0
    rw [ho1, hc1] at a1
    rw [ho2, hc2] at a2
    exact ⟨n, e0.2, e1.2, e2.2, a0.trans (by simp [← h0]), a1.trans (by simp [← h1]), a2.trans (by simp [← h2])⟩

theorem info3_of_reads {W : World} (h : Lib.VarReads Tryz.prog W "internal/strconv.float64info" Rows.laid_internal_strconv_float64info) : W.cell? ⟨8, 0, none⟩ = some (.int .u64 52) ∧ W.cell? ⟨8, 1, none⟩ = some (.int .u64 11) ∧ W.cell? ⟨8, 2, none⟩ = some (.int .i64 (-1023)) := by
  obtain ⟨g, t, cs, fuel, p, hg, hty, hvar, hd⟩ := h
  obtain rfl := Option.some.inj (gInfo.symm.trans hg)
  obtain rfl := Option.some.inj (gInfoType.symm.trans hty)
  obtain ⟨n, p0, p1, p2, a0, a1, a2⟩ := trod_three Tryz.underlying179 rfl rfl rfl cells70 cells70 cells3 hd
  obtain ⟨b0, _⟩ := int_trod Tryz.underlying70 a0
  obtain ⟨b1, _⟩ := int_trod Tryz.underlying70 a1
  obtain ⟨b2, _⟩ := int_trod Tryz.underlying3 a2
  have c0 := congrArg (·[0]?) b0
  have c1 := congrArg (·[0]?) b1
  have c2 := congrArg (·[0]?) b2
  simp only [List.getElem?_take, List.getElem?_drop, List.getElem?_cons_zero, Nat.add_zero] at c0 c1 c2
  rw [if_pos (by decide)] at c0 c1 c2
  exact ⟨(World.var?_cell hg hvar 0).trans ((Array.getElem?_toList).symm.trans c0), (World.var?_cell hg hvar 1).trans ((Array.getElem?_toList).symm.trans c1), (World.var?_cell hg hvar 2).trans ((Array.getElem?_toList).symm.trans c2)⟩

def cutB (l : List UInt8) : Bool := l.all (fun c => decide (48 ≤ c.toNat ∧ c.toNat ≤ 57)) && (l.isEmpty || l.getLast? != some 48)
def cheatB (k : Nat) : Bool := cutB (lcC k) && decide (valS (lcC k) = 5 ^ k) && decide ((lcC k).length + lcD k = k + 1) && decide (2 ^ k ≤ 10 ^ lcD k) && decide (10 ^ lcD k ≤ 10 * 2 ^ k) && decide (1 ≤ lcD k) && decide (lcD k ≤ 19) && decide ((lcC k).length ≤ 100)
theorem cheats_all : ((List.range 61).all fun k => k == 0 || cheatB k) = true := by decide +kernel
theorem cheat_ok (k : Nat) (h1 : 1 ≤ k) (h2 : k ≤ 60) : Cheat k (lcD k) (lcC k) ∧ (lcC k).length ≤ 100 := by
  have h := List.all_eq_true.1 cheats_all k (List.mem_range.2 (by omega))
  have h0 : (k == 0) = false := beq_eq_false_iff_ne.2 (by omega)
  rw [h0, Bool.false_or] at h
  unfold cheatB at h
  simp only [Bool.and_eq_true, decide_eq_true_eq] at h
  obtain ⟨⟨⟨⟨⟨⟨⟨a1, a2⟩, a3⟩, a4⟩, a5⟩, a6⟩, a7⟩, a8⟩ := h
  unfold cutB at a1
  simp only [Bool.and_eq_true, Bool.or_eq_true, List.all_eq_true, decide_eq_true_eq, bne_iff_ne, ne_eq, List.isEmpty_iff] at a1
  exact ⟨⟨⟨a1.1, fun hn => a1.2.resolve_left hn⟩, a2, a3, a4, a5, a6, a7⟩, a8⟩

theorem ptN_ok : ∀ i, i < 9 → 1 ≤ ptN i ∧ ptN i ≤ 27 := by decide

theorem fb_of_reads {W : World} (h8 : Lib.VarReads Tryz.prog W "internal/strconv.float64info" Rows.laid_internal_strconv_float64info) (h13 : Lib.VarReads Tryz.prog W "internal/strconv.powtab" Rows.laid_internal_strconv_powtab) (h16 : Lib.VarReads Tryz.prog W "internal/strconv.leftcheats" Rows.laid_internal_strconv_leftcheats) :
    ∃ a c b cb, Fb lcD lcC ptN W.heap.size W a c b cb := by
  obtain ⟨i0, i1, i2⟩ := info3_of_reads h8
  obtain ⟨b, cb, hb1, hb2⟩ := pt_of_reads h13
  obtain ⟨a, c, ha1, ha2⟩ := lc_of_reads h16
  have g16 : 16 < W.heap.size := World.block_lt_of_cell? W ⟨16, 0, none⟩ ha1
  have ga : a.block < W.heap.size := by
    have := World.block_lt_of_cell? W (a.add (0 * 2)) (ha2 0 (by decide)).1
    rwa [add_block] at this
  have gb : b.block < W.heap.size := by
    have := World.block_lt_of_cell? W (b.add 0) (hb2 0 (by decide))
    rwa [add_block] at this
  exact ⟨a, c, b, cb, ⟨ha1, g16, fun k => by rw [add_block]; exact ga, ga, fun k _ h2 => (ha2 k (by omega)).1, fun k _ h2 => (ha2 k (by omega)).2, cheat_ok⟩, hb1, fun i => by rw [add_block]; exact gb, hb2, ptN_ok, i0, i1, i2⟩

/-- All that ParseFloat reads. -/
theorem all_of_laid {W : World} {l : List (String × DataW Unit)} (h : laidMet Tryz.prog l W) (hd : l.drop 9 = [("strconv.ErrRange", Rows.laid_strconv_ErrRange), ("strconv.ErrSyntax", Rows.laid_strconv_ErrSyntax), ("io.EOF", Rows.laid_io_EOF), ("bytes.ErrTooLarge", Rows.laid_bytes_ErrTooLarge), ("internal/strconv.leftcheats", Rows.laid_internal_strconv_leftcheats), ("internal/strconv.pow10Tab", Rows.laid_internal_strconv_pow10Tab)])
    (h1 : ("internal/strconv.optimize", Rows.laid_internal_strconv_optimize) ∈ l) (h2 : ("internal/strconv.float64info", Rows.laid_internal_strconv_float64info) ∈ l) (h3 : ("internal/strconv.float64pow10", Rows.laid_internal_strconv_float64pow10) ∈ l) (h4 : ("internal/strconv.powtab", Rows.laid_internal_strconv_powtab) ∈ l) : (∃ ea, W.cell? ⟨1, 0, none⟩ = some (EOFv ea)) ∧ AllVars W := by
  have hm : ∀ x ∈ l.drop 9, x ∈ l := fun x hx => List.mem_of_mem_drop hx
  rw [hd] at hm
  have m16 := hm _ (show ("internal/strconv.leftcheats", Rows.laid_internal_strconv_leftcheats) ∈ _ by simp)
  have m15 := hm _ (show ("internal/strconv.pow10Tab", Rows.laid_internal_strconv_pow10Tab) ∈ _ by simp)
  have e11 : l.drop 11 = (l.drop 9).drop 2 := by rw [List.drop_drop]
  have e10 : l.drop 10 = (l.drop 9).drop 1 := by rw [List.drop_drop]
  obtain ⟨a, c, b, cb, hfb⟩ := fb_of_reads (Lib.laidMet.reads h h2) (Lib.laidMet.reads h h4) (Lib.laidMet.reads h m16)
  refine ⟨eof_of_laid (r := [("bytes.ErrTooLarge", Rows.laid_bytes_ErrTooLarge), ("internal/strconv.leftcheats", Rows.laid_internal_strconv_leftcheats), ("internal/strconv.pow10Tab", Rows.laid_internal_strconv_pow10Tab)]) 11 h (by rw [e11, hd]; rfl), flo_of_laid h h1 h2 h3, ⟨syn_of_laid (r := [("io.EOF", Rows.laid_io_EOF), ("bytes.ErrTooLarge", Rows.laid_bytes_ErrTooLarge), ("internal/strconv.leftcheats", Rows.laid_internal_strconv_leftcheats), ("internal/strconv.pow10Tab", Rows.laid_internal_strconv_pow10Tab)]) 10 h (by rw [e10, hd]; rfl), ran_of_laid 9 h hd⟩, tab10_of_reads (Lib.laidMet.reads h m15) (by have := hfb.lc.g16; omega), _, _, _, a, c, b, cb, hfb⟩

end Go.Proofs.YtdabllkphibfmaaGreatDoor

/- FnExtAnyTokens, walked. -/
namespace Go.Proofs.YtdabllkphibfmaaGreatDoor
open Go Go.RowKit
set_option linter.unusedSimpArgs false
set_option linter.unusedVariables false

theorem old_bel {w w' : World} (h : Below w.heap.size w w') : Old w w' := (Old.refl w).below h (Nat.le_refl _)
theorem FloVars.bel {w w' : World} (h : FloVars w) (hb : Below w.heap.size w w') : FloVars w' := by
  have o := old_bel hb
  obtain ⟨f1, f2, a, c, f3, f4⟩ := h
  exact ⟨o.cell f1, o.cell f2, a, c, o.cell f3, fun i hi => o.cellA (f4 i hi)⟩
theorem NumVars.bel {w w' : World} (h : NumVars w) (hb : Below w.heap.size w w') : NumVars w' := by
  have o := old_bel hb
  obtain ⟨⟨t4, y4, n4⟩, ⟨t5, y5, n5⟩⟩ := h
  exact ⟨⟨t4, y4, o.cell n4⟩, ⟨t5, y5, o.cell n5⟩⟩
theorem PfC.bel {w w' : World} {pf : PF} (h : PfC w pf) (hb : Below w.heap.size w w') : PfC w' pf := fun txt W r hW hr => h txt W r ⟨Nat.le_trans hb.size hW.size, fun k hk => (hW.block k (by have := hb.size; omega)).trans (hb.block k hk)⟩ hr

theorem row_sl {w : World} {B e k n : Nat} {v : Value} {xs : List Value} (h : w.ownsRow B e k v n xs) : ∃ ao cap, v = .slice ao n cap := by
  rcases h.2 with ⟨rfl, h0⟩ | ⟨g, cap, cur, rfl, _⟩
  · exact ⟨none, 0, by rw [h0]⟩
  · exact ⟨_, _, rfl⟩

theorem row_get {w : World} {B e size n cap : Nat} {ao : Option Addr} {α : Type} {f : α → List Value} {l : List α} (hf : ∀ x, (f x).length = size) (h : w.ownsRow B e size (.slice ao n cap) n (l.flatMap f)) (hn : l.length = n) (k : Nat) (hk : k < l.length) :
    ∃ gb, ao = some ⟨gb, 0, none⟩ ∧ gb < w.heap.size ∧ ∀ j, j < size → w.cell? ⟨gb, k * size + j, none⟩ = (f (l[k]'hk))[j]? := by
  rcases h.2 with ⟨_, h0⟩ | ⟨g, cap', cur, hv, hb, hh, _, _, _, hr⟩
  · omega
  · injection hv with h1 h2 h3
    refine ⟨g, h1, lt_of_heap hh, fun j hj => ?_⟩
    have h1 := flatMap_get f size hf l k hk j hj
    rw [← hr, List.getElem?_take, if_pos (by have : (k + 1) * size ≤ n * size := Nat.mul_le_mul_right size (by omega); rw [Nat.succ_mul] at this; omega)] at h1
    rw [← h1]
    simp [World.cell?, hh]

theorem one_tok : toks (numSub pfQuick) litRun (⟨#[91, 49, 93]⟩ : ByteArray).size 4 (⟨#[91, 49, 93]⟩ : ByteArray).data.toList = some ([(2, .byte 91, 0), (6, .i32 1, 1), (3, .byte 93, 2)], true) := by kernel_rfl

theorem tv_inR {v : TV} (h : TVin v) : v.inR := by cases v <;> exact h

/-- What the reference says of a text is what the scanner wants. -/
theorem any_facts {pf : PF} (hp : ∀ txt, exNum txt ≠ none → txt.length ≤ 1000000 → pf txt ≠ none) {s : ByteArray} (hs : s.size ≤ 2000) {ts : List (Nat × TV × Nat)} {ok : Bool} (h : TokR (numSub pf) litRun s.size s.data.toList ts ok) :
    ts.length ≤ 2000 ∧ ∀ x ∈ ts, x.1 < 12 ∧ TVin x.2.1 ∧ x.2.2 < s.size := by
  have hl : s.data.toList.length = s.size := rfl
  by_cases h0 : 0 < s.size
  · obtain ⟨h1, h2⟩ := TokR.inn hp h (Nat.le_refl _) h0 (by omega)
    exact ⟨by omega, h2⟩
  · have he : s.data.toList = [] := List.eq_nil_of_length_eq_zero (by omega)
    rw [he] at h
    cases h with
    | nil _ => exact ⟨by simp, fun x hx => by cases hx⟩
    | err h _ => cases h
    | tok h _ _ => cases h

/-- The scanner's tokens. -/
theorem any_tokens {pf : PF} (hp : ∀ txt, exNum txt ≠ none → txt.length ≤ 1000000 → pf txt ≠ none) {s : ByteArray} (hs : s.size ≤ 2000) {ea : Addr} {w : World} (heof : w.cell? ⟨1, 0, none⟩ = some (EOFv ea)) (hpf : PfC w pf) (hn : NumVars w) {ts : List (Nat × TV × Nat)} {ok : Bool} (h : TokR (numSub pf) litRun s.size s.data.toList ts ok) :
    Calls Tryz.prog 9 #[.string s] w (ExtPost w.heap.size w (ts.map place512) ok) := by
  obtain ⟨h1, h2⟩ := any_facts hp hs h
  refine extTokens s ea w heof (by omega) (fun sc hsc => sc.numC w pf hpf hn (by rw [hsc]; have hl : s.data.toList.length = s.size := rfl; omega)) (fun sc _ => sc.litC w) (ts.length + 1) _ ok (by simp; omega) ?_ ?_ h.toks
  · intro x hx
    obtain ⟨y, hy, rfl⟩ := List.mem_map.1 hx
    exact (h2 y hy).1
  · intro x hx
    obtain ⟨y, hy, rfl⟩ := List.mem_map.1 hx
    exact tv_inR (h2 y hy).2.1

/-- "[1]". -/
theorem one_tokens {ea : Addr} {w : World} (heof : w.cell? ⟨1, 0, none⟩ = some (EOFv ea)) (hf : FloVars w) (hn : NumVars w) : Calls Tryz.prog 9 #[.string ⟨#[91, 49, 93]⟩] w (ExtPost w.heap.size w [(2, .byte 91, 0), (6, .i32 1, 1), (3, .byte 93, 2)] true) :=
  extTokens ⟨#[91, 49, 93]⟩ ea w heof (by decide) (fun sc hsc => sc.numC w pfQuick (pfQuick_C w hf) hn (by rw [hsc]; decide)) (fun sc _ => sc.litC w) 4 _ true (by decide) (by decide) (by simp [TV.inR]) one_tok

/-- The state at the head of the law's loop. -/
def LA (w3 : World) (n m : Nat) (i : Value) (wx : World) : Prop :=
  ∃ k : Nat, k ≤ n ∧ m = n - k ∧ i = .int .i64 k ∧ Below w3.heap.size w3 wx

theorem below_dn {B : Nat} {w w' : World} (h : Below B w w') (n : Nat) : Below B w (w'.drewN n) := ⟨h.os, h.tape, h.output, h.size, h.block⟩
theorem la_step {w3 wr : World} {n k q : Nat} {o : Obj} (hk : k < n) (hb : Below w3.heap.size w3 wr) : LA w3 n (n - (k + 1)) (.int .i64 (k + 1)) ((wr.alloc o).drewN q) :=
  ⟨k + 1, hk, rfl, by simp, below_dn (hb.alloc hb.size _) q⟩

/-- The cells of the two tokens. -/
theorem any_in {w1 w2 wr : World} {B : Nat} {ao ao2 : Option Addr} {cap cap2 : Nat} {ts : List (Nat × TV × Nat)} {s : ByteArray} (hb2 : Below w1.heap.size w1 w2) (hbr : Below w2.heap.size w2 wr) (h1 : w1.ownsRow B 29 5 (.slice ao ts.length cap) ts.length (ts.flatMap extCells))
    (h2 : w2.ownsRow w1.heap.size 29 5 (.slice ao2 (ts.map place512).length cap2) (ts.map place512).length ((ts.map place512).flatMap extCells)) (hin : ∀ x ∈ ts, x.1 < 12 ∧ TVin x.2.1 ∧ x.2.2 < s.size) (k : Nat) (hk : k < ts.length) :
    ∃ (K : Int) (txt : ByteArray) (N Bt A A2 : Int) (ga gb : Nat), ao = some ⟨ga, 0, none⟩ ∧ ao2 = some ⟨gb, 0, none⟩ ∧ ga < wr.heap.size ∧ gb < wr.heap.size ∧
      (wr.cell? ⟨ga, k * 5, none⟩ = some (.int .i64 K) ∧ wr.cell? ⟨ga, k * 5 + 1, none⟩ = some (.string txt) ∧ wr.cell? ⟨ga, k * 5 + 2, none⟩ = some (.int .i64 N) ∧ wr.cell? ⟨ga, k * 5 + 3, none⟩ = some (.int .u64 Bt) ∧ wr.cell? ⟨ga, k * 5 + 4, none⟩ = some (.int .i64 A)) ∧
      (wr.cell? ⟨gb, k * 5, none⟩ = some (.int .i64 K) ∧ wr.cell? ⟨gb, k * 5 + 1, none⟩ = some (.string txt) ∧ wr.cell? ⟨gb, k * 5 + 2, none⟩ = some (.int .i64 N) ∧ wr.cell? ⟨gb, k * 5 + 3, none⟩ = some (.int .u64 Bt) ∧ wr.cell? ⟨gb, k * 5 + 4, none⟩ = some (.int .i64 A2)) ∧ (s.size ≤ 512 → A2 = A) := by
  have hk2 : k < (ts.map place512).length := by simpa using hk
  have b2 := hb2.size
  have b3 := hbr.size
  obtain ⟨ga, rfl, hga, hc⟩ := row_get (f := extCells) (fun _ => rfl) h1 rfl k hk
  obtain ⟨gb, rfl, hgb, hd⟩ := row_get (f := extCells) (fun _ => rfl) h2 rfl k hk2
  have r1 : ∀ j, wr.cell? ⟨ga, k * 5 + j, none⟩ = w1.cell? ⟨ga, k * 5 + j, none⟩ := fun j => (hbr.cell (p := ⟨ga, k * 5 + j, none⟩) (show ga < w2.heap.size by omega)).trans (hb2.cell (p := ⟨ga, k * 5 + j, none⟩) hga)
  have r2 : ∀ j, wr.cell? ⟨gb, k * 5 + j, none⟩ = w2.cell? ⟨gb, k * 5 + j, none⟩ := fun j => hbr.cell (p := ⟨gb, k * 5 + j, none⟩) hgb
  have e : (ts.map place512)[k]'hk2 = place512 (ts[k]'hk) := by simp
  refine ⟨(ts[k]'hk).1, ⟨(ts[k]'hk).2.1.text.toArray⟩, (ts[k]'hk).2.1.num, (ts[k]'hk).2.1.bits, (ts[k]'hk).2.2, ((ts[k]'hk).2.2 % 512 : Nat), ga, gb, rfl, rfl, by omega, by omega, ⟨(r1 0).trans (hc 0 (by decide)), (r1 1).trans (hc 1 (by decide)), (r1 2).trans (hc 2 (by decide)), (r1 3).trans (hc 3 (by decide)), (r1 4).trans (hc 4 (by decide))⟩, ⟨?_, ?_, ?_, ?_, ?_⟩, fun h5 => ?_⟩
  · exact (r2 0).trans ((hd 0 (by decide)).trans (by rw [e]; rfl))
  · exact (r2 1).trans ((hd 1 (by decide)).trans (by rw [e]; rfl))
  · exact (r2 2).trans ((hd 2 (by decide)).trans (by rw [e]; rfl))
  · exact (r2 3).trans ((hd 3 (by decide)).trans (by rw [e]; rfl))
  · exact (r2 4).trans ((hd 4 (by decide)).trans (by rw [e]; rfl))
  · have := (hin _ (List.getElem_mem hk)).2.2
    rw [Nat.mod_eq_of_lt (by omega)]

set_option maxRecDepth 1000000 in
set_option maxHeartbeats 40000000 in
/-- The law. -/
theorem lawAny (s : ByteArray) (ea : Addr) (w : World) (heof : w.cell? ⟨1, 0, none⟩ = some (EOFv ea)) (hv : AllVars w) :
    Calls Tryz.prog 3 #[.string s] w fun e w' => e = .returned (.bool true) ∧ Below w.heap.size w w' := by
  by_cases h1 : s.size ≤ 2000
  · obtain ⟨pf, hpf, hp⟩ := pf_exists w hv
    have HV := Lib.hid hv
    have HE := Lib.hid heof
    have HPF := Lib.hid hpf
    have HP := Lib.hid hp
    clear hpf hp heof hv
    have hszi : (s.size : Int) ≤ 2000 := by omega
    go_enter Tryz.func3, Tryz.ntmps3
    go_upto_if 25 with (first | (go_at_call 8; refine (extTokensOf pf HP.out w HPF.out s (by omega) w (Old.refl w)).mono ?_; rintro e w1 ⟨v, ok, known, ts, rfl, hb1, hown, htr⟩; have HB1 := Lib.hid hb1; have HOWN := Lib.hid hown; have HTR := Lib.hid htr; clear hb1 hown htr))
    cases known with
    | false =>
      go_wp2
      go_ret
      exact ⟨rfl, HB1.out⟩
    | true =>
      have HT := Lib.hid (HTR.out rfl)
      obtain ⟨hlen, hin⟩ := any_facts HP.out h1 HT.out
      have HIN := Lib.hid hin
      obtain ⟨ao, cap, rfl⟩ := row_sl HOWN.out
      clear HTR hin
      have HO := Lib.hid (old_bel HB1.out)
      go_upto_if 40 with (first | (go_at_call 9; refine (any_tokens HP.out h1 (HO.out.cell HE.out) (HPF.out.bel HB1.out) (HV.out.num.bel HB1.out) HT.out).mono ?_; rintro e w2 ⟨v2, rfl, hown2, hb2⟩; obtain ⟨ao2, cap2, rfl⟩ := row_sl hown2; have HB2 := Lib.hid hb2; have HOWN2 := Lib.hid hown2; clear hown2 hb2))
      have HBW := Lib.hid (HB1.out.trans (HB2.out.mono HB1.out.size))
      go_wp2
      go_loopg [43] ts.length (fun m i wx => Aside (LA w2 ts.length m i wx))
      case atStart => exact ⟨0, by omega, by omega, rfl, Below.refl _ _⟩
      case round =>
        obtain ⟨k, hk, hm, rfl, hbel⟩ := hrel.out
        clear hrel
        have HM1 := Lib.hid hm
        have HBEL := Lib.hid hbel
        clear hm hbel
        by_cases hkn : k < ts.length
        · obtain ⟨K, txt, N, Bt, A, A2, ga, gb, rfl, rfl, hga, hgb, ⟨c0, c1, c2, c3, c4⟩, ⟨d0, d1, d2, d3, d4⟩, hq⟩ := any_in HB2.out HBEL.out HOWN.out HOWN2.out HIN.out k hkn
          have HQ := Lib.hid hq
          clear hq
          by_cases h512 : s.size ≤ 512
          · obtain rfl := HQ.out h512
            have h512i : (s.size : Int) ≤ 512 := by omega
            have h512d : decide ((512 : Int) < s.size) = false := decide_eq_false (by omega)
            go_wp2
            go_quiet (fail)
            go_wp2
            go_roundg (ts.length - (k + 1))
            case measure => have := HM1.out; omega
            case rel => exact la_step hkn HBEL.out
          · have h512i : ¬ (s.size : Int) ≤ 512 := by omega
            have h512d : decide ((512 : Int) < s.size) = true := decide_eq_true (by omega)
            go_wp2
            go_quiet (fail)
            go_wp2
            go_roundg (ts.length - (k + 1))
            case measure => have := HM1.out; omega
            case rel =>
              exact la_step hkn HBEL.out
        · have hge : ¬ (k : Int) < ts.length := by omega
          have HBR := Lib.hid (HBW.out.trans (HBEL.out.mono HBW.out.size))
          go_wp2_with (first | (go_at_call 9; refine (one_tokens ((old_bel HBR.out).cell HE.out) (HV.out.flo.bel HBR.out) (HV.out.num.bel HBR.out)).mono ?_; rintro e w4 ⟨v4, rfl, hown4, hb4⟩; obtain ⟨ao4, cap4, rfl⟩ := row_sl hown4; have HB4 := Lib.hid hb4; clear hown4 hb4))
          go_ret
          exact ⟨rfl, HBR.out.trans (HB4.out.mono HBR.out.size)⟩
  · have h1i : ¬ (s.size : Int) ≤ 2000 := by omega
    go_enter Tryz.func3, Tryz.ntmps3
    go_wp2
    all_goals (go_ret; exact ⟨rfl, Below.refl _ w⟩)

end Go.Proofs.YtdabllkphibfmaaGreatDoor

namespace Go.Proofs.YtdabllkphibfmaaGreatDoor
open Go Go.ChangeShapes Go.WideShapes Go.ChangeAt Go.RowKit
open Go.ChangeMaps (open_string shut_string)

set_option maxRecDepth 100000 in
theorem anyLifted (os : Os) (started : os.Started) (H : Type) (enc : TypeId × Value → H) :
    ReturnsInHanded {} Tryz.checked os 3 .any (fun w args => (Rows.fnExtAnyTokensSpec.pre enc Tryz.prog Tryz.f3 [] false w args ∧ laidMetH Tryz.prog Rows.fnExtAnyTokensRow.laid w) ∧ sizedMet enc Tryz.prog Tryz.f3 (OpenSpec.ofChange Rows.fnExtAnyTokensSpec) false w args)
      (Rows.fnExtAnyTokensSpec.post enc Tryz.prog Tryz.f3 false true false false) := by
  refine returnsInHanded_of_change_and (C := Tryz.checked) (X := fun w _ => laidMetH Tryz.prog Rows.fnExtAnyTokensRow.laid w) (fun _ _ _ hh h => h.of_heap hh) own started (by kernel_rfl) Tryz.func3
    (ChangeSpec.witness_shaped (enc := enc) (C := Tryz.checked) (os := os) (X := fun w _ => laidMetH Tryz.prog Rows.fnExtAnyTokensRow.laid w) false (World.laidAll Tryz.prog os Rows.fnExtAnyTokensRow.laid) #[.string ⟨#[]⟩] 8 (World.laidAll_os _ _ _)
      (World.shaped_of_ZipB (by kernel_rfl) (by kernel_rfl)) (by kernel_rfl) (by kernel_rfl) (by kernel_rfl)
      (by rw [MakeChecks.laidMetH_plain _ _ _ (by kernel_rfl)]; exact laidMet_laidAll _ (by kernel_rfl) (by kernel_rfl))) ?_
  intro W base args ds gs before hval0 hW _ _ hL _
  have hval : ∀ (j : Nat) t v, Tryz.f3.params[j]? = some t → args[j]? = some v → Value.okWide Tryz.prog W .any base t v := hval0
  have hW' := hW
  obtain ⟨p, q, hA0, hV, rfl, _, _⟩ := hW
  have hA : DataW.TrodAll enc Tryz.prog W 0 (fun _ => true) true Tryz.f3.params.toList args.toList ds p := hA0
  rw [Tryz.params3] at hA hval
  obtain ⟨v0, d0, rfl, rfl, h0⟩ := trodAll_one hA
  obtain ⟨rfl, rfl⟩ := trodVars_none hV
  have lt0 : ∀ x ∈ p, x.block < W.heap.size := by obtain ⟨m, hm⟩ := h0; exact DataW.trod_lt m _ _ _ hm
  have k0 := h0
  obtain ⟨s, rfl, rfl, rfl, hs⟩ := open_string Tryz.underlying9 (hval 0 9 v0 rfl rfl) h0
  simp only [List.append_nil] at hW'
  rw [MakeChecks.laidMetH_plain _ _ _ (by kernel_rfl)] at hL
  obtain ⟨⟨ea, heof⟩, hv⟩ := all_of_laid hL rfl (by simp [Rows.fnExtAnyTokensRow]) (by simp [Rows.fnExtAnyTokensRow]) (by simp [Rows.fnExtAnyTokensRow]) (by simp [Rows.fnExtAnyTokensRow])
  refine (lawAny s ea W heof hv).mono fun e W' ⟨he, bel⟩ => ?_
  subst he
  exact ⟨_, rfl, _, _, _, [], _, [], hW', trodAll_mk1 (shut_bool Tryz.underlying4 _), trodAll_mk1 (Below.trod laidOut (by kernel_rfl) (of_decide_eq_true (by kernel_rfl)) k0 bel lt0), rfl, bel.frame _, fun h => by cases h⟩

theorem any_holds : Rows.FnExtAnyTokensSaid :=
  OpenClaim.holds_of_wide 3 Tryz.f3 rfl rfl rfl rfl rfl rfl rfl ⟨rfl, rfl, rfl, rfl, rfl⟩ rfl rfl rfl rfl rfl (by kernel_rfl) Tryz.func3 (by kernel_rfl)
    (of_decide_eq_true (by kernel_rfl)) (by unfold Func.isWrapper; first | (rw [if_pos (by decide +kernel)]; kernel_rfl) | (rw [if_neg (by decide +kernel)]; exact ⟨rfl, rfl⟩))
    (fun os started H enc _ => anyLifted os started H enc)

theorem any_plain (f : FuncId) (fn : Func) (hf : Tryz.pinned.checked.prog.funcNamed "pub-gunnysack/laws.FnExtAnyTokens" = some f) (hfn : Tryz.pinned.checked.prog.funcs[f]? = some fn) :
    true = Tryz.pinned.checked.prog.looks [] ∧ ∀ (j : Nat) t, fn.params[j]? = some t → Tryz.pinned.checked.prog.wantsStandIn t = false := by
  obtain rfl : f = 3 := Option.some.inj ((show Tryz.prog.funcNamed "pub-gunnysack/laws.FnExtAnyTokens" = some 3 by kernel_rfl).symm.trans hf) |>.symm
  obtain rfl : fn = Tryz.f3 := (Option.some.inj (Tryz.func3.symm.trans hfn)).symm
  refine ⟨by kernel_rfl, fun j t ht => ?_⟩
  rw [Tryz.params3] at ht
  have hm : t ∈ [9] := by simpa using Array.mem_of_getElem? ht
  have hall : ([9].all fun u => !Tryz.prog.wantsStandIn u) = true := by kernel_rfl
  exact (show Tryz.prog.wantsStandIn t = false by simpa using List.all_eq_true.1 hall t hm)

/-- THE STATEMENT. -/
theorem any_card : Rows.FnExtAnyTokensCardSaid :=
  Claim7.holds_tied_plain_at .later [] _ _ _ _ any_holds (fun _ h => by cases h) (by kernel_rfl) (fun _ h => by cases h) fnExtAnyTokens_row_tie rfl ⟨rfl, rfl⟩ (by kernel_rfl) rfl any_plain (by kernel_rfl)
#print axioms any_card
end Go.Proofs.YtdabllkphibfmaaGreatDoor
