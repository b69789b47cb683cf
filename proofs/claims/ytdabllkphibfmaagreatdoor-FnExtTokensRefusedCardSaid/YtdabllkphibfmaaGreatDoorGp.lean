/- FnExtTokens, walked. -/
import Derived.Test.YtdabllkphibfmaaGreatDoorGo
import Derived.Test.YtdabllkphibfmaaGreatDoorGm
import Derived.Test.YtdabllkphibfmaaGreatDoorGi
namespace Go.Proofs.YtdabllkphibfmaaGreatDoor
open Go Go.RowKit PFnExtTokens Go.Proofs.YtdabllkphibfmaaGreatDoorW.PrintWords
set_option linter.unusedSimpArgs false
set_option linter.unusedVariables false

/-- The variables that the scanner and ParseFloat read. -/
structure TokVars (ea : Addr) (w : World) : Prop where
  eof : w.cell? ⟨1, 0, none⟩ = some (EOFv ea)
  flo : FloVars w
  num : NumVars w

theorem old_of_below {w w' : World} (h : Below w.heap.size w w') : Old w w' := (Old.refl w).below h (Nat.le_refl _)

theorem TokVars.below {ea : Addr} {w w' : World} (h : TokVars ea w) (hb : Below w.heap.size w w') : TokVars ea w' := by
  have o := old_of_below hb
  obtain ⟨h1, ⟨f1, f2, a, c, f3, f4⟩, ⟨t4, y4, n4⟩, ⟨t5, y5, n5⟩⟩ := h
  exact ⟨o.cell h1, ⟨o.cell f1, o.cell f2, a, c, o.cell f3, fun i hi => o.cellA (f4 i hi)⟩, ⟨t4, y4, o.cell n4⟩, ⟨t5, y5, o.cell n5⟩⟩

/-- ExtTokens at any text of which the plain functions tell the tokens. -/
theorem extTokensQ (s : ByteArray) (hs : s.size ≤ 1000000) (ea : Addr) (w : World) (hv : TokVars ea w) (f : Nat) (ts : List (Nat × TV × Nat)) (ok : Bool) (hts : ts.length ≤ 1000000) (hk12 : ∀ x ∈ ts, x.1 < 12) (hir : ∀ x ∈ ts, x.2.1.inR) (hrun : toks (numSub pfQuick) litRun s.size f s.data.toList = some (ts, ok)) :
    Calls Tryz.prog 9 #[.string s] w (ExtPost w.heap.size w ts ok) :=
  extTokens s ea w hv.eof hs (fun sc hsc => sc.numC w pfQuick (pfQuick_C w hv.flo) hv.num (by rw [hsc]; simpa using hs)) (fun sc _ => sc.litC w) f ts ok hts hk12 hir hrun

/-- A row's form. -/
theorem row_slice {w : World} {B e k n : Nat} {v : Value} {xs : List Value} (h : w.ownsRow B e k v n xs) : ∃ ao cap, v = .slice ao n cap := by
  rcases h.2 with ⟨rfl, h0⟩ | ⟨g, cap, cur, rfl, _⟩
  · exact ⟨none, 0, by rw [h0]⟩
  · exact ⟨_, _, rfl⟩

theorem row_at {w : World} {B e size n cap : Nat} {ao : Option Addr} {α : Type} {f : α → List Value} {l : List α} (hf : ∀ x, (f x).length = size) (h : w.ownsRow B e size (.slice ao n cap) n (l.flatMap f)) (hn : l.length = n) (k : Nat) (hk : k < l.length) :
    ∃ gb, ao = some ⟨gb, 0, none⟩ ∧ gb < w.heap.size ∧ ∀ j, j < size → w.cell? ⟨gb, k * size + j, none⟩ = (f (l[k]'hk))[j]? := by
  rcases h.2 with ⟨_, h0⟩ | ⟨g, cap', cur, hv, hb, hh, _, _, _, hr⟩
  · omega
  · injection hv with h1 h2 h3
    refine ⟨g, h1, lt_of_heap hh, fun j hj => ?_⟩
    have h1 := flatMap_get f size hf l k hk j hj
    rw [← hr, List.getElem?_take, if_pos (by have : (k + 1) * size ≤ n * size := Nat.mul_le_mul_right size (by omega); rw [Nat.succ_mul] at this; omega)] at h1
    rw [← h1]
    simp [World.cell?, hh]

theorem map_flat (l : List Nat) : (l.map fun q : Nat => Value.int .i64 q) = l.flatMap fun q : Nat => [Value.int .i64 q] := by
  induction l with
  | nil => rfl
  | cons q l ih => simp [ih]

theorem one_toks : toks (numSub pfQuick) litRun (⟨#[91, 49, 93]⟩ : ByteArray).size 4 (⟨#[91, 49, 93]⟩ : ByteArray).data.toList = some ([(2, .byte 91, 0), (6, .i32 1, 1), (3, .byte 93, 2)], true) := by kernel_rfl

/-- The place of a mark lies in the text. -/
theorem parts_place : ∀ (ms : List Mk) (pos prev : Nat) (s : List UInt8) (pl : List Nat), Parts pos prev ms s pl → (∀ m ∈ ms, IsMk m) → ∀ (i : Nat) (h : i < pl.length), pl[i]'h < pos + s.length
  | [], pos, prev, s, pl, h, _, i, hi => by
    obtain ⟨_, rfl⟩ := h
    exact absurd hi (by simp)
  | m :: ms, pos, prev, s, pl, h, hm, i, hi => by
    obtain ⟨t, r, pl', h1, h2, rfl, rfl, h5⟩ := h
    obtain ⟨_, c, as', hb, _⟩ := mark_tok (hm m List.mem_cons_self)
    cases i with
    | zero => simp [hb]
    | succ i =>
      have := parts_place ms _ _ r pl' h5 (fun m h => hm m (List.mem_cons_of_mem _ h)) i (by simpa using hi)
      simp at this ⊢
      omega

theorem fits_kind {ms : List Mk} {pl : List Nat} {ts : List (Nat × TV × Nat)} (h : Fits ms pl ts) (hm : ∀ m ∈ ms, IsMk m) : ∀ x ∈ ts, x.1 < 12 := by
  intro x hx
  obtain ⟨i, hi, rfl⟩ := List.getElem_of_mem hx
  obtain ⟨h1, h2⟩ := h.len
  have := (h.get i (by omega) hi (by omega)).1
  rw [this]
  exact (mark_tok (hm _ (List.getElem_mem _))).1

theorem fits_inR {ms : List Mk} {pl : List Nat} {ts : List (Nat × TV × Nat)} (h : Fits ms pl ts) : ∀ x ∈ ts, x.2.1.inR := by
  intro x hx
  obtain ⟨i, hi, rfl⟩ := List.getElem_of_mem hx
  obtain ⟨h1, h2⟩ := h.len
  exact (h.get i (by omega) hi (by omega)).2.2.1

/-- The texts and the tokens: what the two calls of the law leave. -/
def TkPost (w : World) (n : Nat) (ms : List Mk) (e : Ending) (w' : World) : Prop :=
  ∃ (s : ByteArray) (pl : List Nat) (v : Value), e = .returned (.tuple #[.string s, v]) ∧ Parts 0 0 ms s.data.toList pl ∧ s.size ≤ 5000 ∧ pl.length = ms.length ∧ w'.ownsRow (w.heap.size + 1) 3 1 v ms.length (pl.map fun q : Nat => .int .i64 q) ∧ Below w.heap.size w w'

/-- A number with a point, as the law's reference reads it. -/
structure FloText (s : ByteArray) (b : Nat) : Prop where
  one : 1 < s.size
  nn : 0 < s.size
  plus : s[0]'nn ≠ 43
  low : ∀ i (hi : i < s.size), ((s[i]'hi).toNat : Int) < 65
  size : s.size ≤ 1000000
  pf : pfQuick s.data.toList = some (some b)

theorem flo_text {m : Mk} {b : Nat} (h : IsMk m) (hk : m.kind = 8) (hb : pfQuick m.body = some (some b)) : FloText ⟨m.body.toArray⟩ b := by
  cases h with
  | dbl n hn fr hf =>
    have hl := body_len (.dbl n hn fr hf)
    simp only at hl hb
    obtain ⟨hf1, hf2, hf3⟩ := frac_ok hf
    have hall : ∀ c ∈ (decB n ++ 46 :: fr), c.toNat < 65 ∧ c ≠ 43 := by
      have hd : ∀ c, isDig c = true → c.toNat < 65 ∧ c ≠ 43 := by
        intro c hc
        have h2 : 48 ≤ c.toNat ∧ c.toNat ≤ 57 := of_decide_eq_true hc
        refine ⟨by omega, ?_⟩
        rintro rfl
        exact absurd h2.1 (by decide)
      intro c hc
      rcases List.mem_append.1 hc with hc | hc
      · unfold decB at hc
        split at hc
        · rcases List.mem_cons.1 hc with rfl | hc
          · decide
          · exact hd c (decN_dig _ c hc)
        · exact hd c (decN_dig _ c hc)
      · rcases List.mem_cons.1 hc with rfl | hc
        · decide
        · exact hd c (hf3 c hc)
    have hlen : 1 < (decB n ++ 46 :: fr).length := by
      cases fr with
      | nil => exact absurd rfl hf2
      | cons a l => simp; omega
    refine ⟨by simpa [ByteArray.size] using hlen, by simp [ByteArray.size] at hlen ⊢; omega, ?_, ?_, by simp [ByteArray.size] at hl ⊢; omega, hb⟩
    · exact (hall _ (by simp [ByteArray.getElem_eq_getElem_data])).2
    · intro i hi
      exact Int.ofNat_lt.2 (hall ((⟨(decB n ++ 46 :: fr).toArray⟩ : ByteArray)[i]'hi) (by simp [ByteArray.getElem_eq_getElem_data])).1
  | _ => exact absurd hk (by simp only; omega)

/-- The state at the head of the law's loop. -/
def LT (w3 : World) (n m : Nat) (i : Value) (wx : World) : Prop :=
  ∃ k : Nat, k ≤ n ∧ m = n - k ∧ i = .int .i64 k ∧ Below w3.heap.size w3 wx

theorem lt_step {w3 wr : World} {n k q : Nat} {o o2 : Obj} (hk : k < n) (hb : Below w3.heap.size w3 wr) : LT w3 n (n - (k + 1)) (.int .i64 (k + 1)) (((wr.alloc o).alloc o2).drewN q) :=
  ⟨k + 1, hk, rfl, by simp, below_n ((hb.alloc hb.size _).alloc (by have := hb.size; simp; omega) _) q⟩

theorem lt_step9 {w3 wr w9 : World} {n k q : Nat} {o o2 : Obj} (hk : k < n) (hb : Below w3.heap.size w3 wr) (h9 : Below (((wr.alloc o).alloc o2).drewN q).heap.size (((wr.alloc o).alloc o2).drewN q) w9) : LT w3 n (n - (k + 1)) (.int .i64 (k + 1)) w9 :=
  ⟨k + 1, hk, rfl, by simp, (below_n ((hb.alloc hb.size _).alloc (by have := hb.size; simp; omega) _) q).trans (h9.mono (by have := hb.size; show w3.heap.size ≤ ((wr.alloc o).alloc o2).heap.size; simp; omega))⟩

theorem old_round {w2 w3 wr : World} {o o2 : Obj} (h3 : Below w2.heap.size w2 w3) (hb : Below w3.heap.size w3 wr) (q : Nat) : Old w2 (((wr.alloc o).alloc o2).drewN q) :=
  ((old_of_below h3).below hb h3.size).below (below_n (((Below.refl wr.heap.size wr).alloc (Nat.le_refl _) _).alloc (by simp) _) q) (Nat.le_trans h3.size hb.size)

theorem flo_cell {wr w9 : World} {o : Obj} {c0 c1 c2 c3 c4 : Value} {q : Nat} (h : Below (((wr.alloc o).alloc (.cells #[c0, c1, c2, c3, c4] 29)).drewN q).heap.size (((wr.alloc o).alloc (.cells #[c0, c1, c2, c3, c4] 29)).drewN q) w9) : w9.cell? ⟨wr.heap.size + 1, 3, none⟩ = some c3 := by
  have hb : (((wr.alloc o).alloc (.cells #[c0, c1, c2, c3, c4] 29)).drewN q).heap[wr.heap.size + 1]? = some (.cells #[c0, c1, c2, c3, c4] 29) := heap_alloc_new' (wr.alloc o) _ (by simp)
  have h2 := blk_after h hb
  simp [World.cell?, h2]

/-- What a round of the law meets: the cells of the mark, of the token, and of the place. -/
theorem round_in {w w1 w2 w3 wr : World} {ms : List Mk} {ao ao2 ao3 : Option Addr} {cap cap2 cap3 : Nat} {pl : List Nat} {ts : List (Nat × TV × Nat)} {s : ByteArray} (hb1 : Below w.heap.size w w1) (hb2 : Below w1.heap.size w1 w2) (hb3 : Below w2.heap.size w2 w3) (hbr : Below w3.heap.size w3 wr)
    (h1 : w1.ownsRow (w.heap.size + 1) 41 4 (.slice ao ms.length cap) ms.length (ms.flatMap mkCells)) (h2 : w2.ownsRow (w1.heap.size + 1) 3 1 (.slice ao2 ms.length cap2) ms.length (pl.map fun q : Nat => .int .i64 q)) (h3 : w3.ownsRow w2.heap.size 29 5 (.slice ao3 ts.length cap3) ts.length (ts.flatMap extCells))
    (hms : ∀ m ∈ ms, IsMk m) (hf : Fits ms pl ts) (hp : Parts 0 0 ms s.data.toList pl) (htl : ts.length = ms.length) (hpl : pl.length = ms.length) (k : Nat) (hk : k < ms.length) :
    ∃ (K : Nat) (body : List UInt8) (bb tt : ByteArray) (n : Int) (V : TV) (q : Nat), (∃ gb ge ga, ao = some ⟨gb, 0, none⟩ ∧ ao3 = some ⟨ge, 0, none⟩ ∧ ao2 = some ⟨ga, 0, none⟩ ∧ gb < wr.heap.size ∧ ge < wr.heap.size ∧ ga < wr.heap.size ∧
      wr.cell? ⟨gb, k * 4, none⟩ = some (.int .i64 K) ∧ wr.cell? ⟨gb, k * 4 + 1, none⟩ = some (.string bb) ∧ wr.cell? ⟨gb, k * 4 + 2, none⟩ = some (.string tt) ∧ wr.cell? ⟨gb, k * 4 + 3, none⟩ = some (.int .i64 n) ∧
      wr.cell? ⟨ge, k * 5, none⟩ = some (.int .i64 K) ∧ wr.cell? ⟨ge, k * 5 + 1, none⟩ = some (.string ⟨V.text.toArray⟩) ∧ wr.cell? ⟨ge, k * 5 + 2, none⟩ = some (.int .i64 V.num) ∧ wr.cell? ⟨ge, k * 5 + 3, none⟩ = some (.int .u64 V.bits) ∧ wr.cell? ⟨ge, k * 5 + 4, none⟩ = some (.int .i64 (q % 512 : Nat)) ∧
      wr.cell? ⟨ga, k, none⟩ = some (.int .i64 q)) ∧ K < 12 ∧
      ((K = 9 ∧ tt = ⟨V.text.toArray⟩) ∨ ((K = 6 ∨ K = 7 ∨ K = 10) ∧ n = V.num) ∨ (K = 8 ∧ FloText bb V.bits) ∨ (K ≠ 9 ∧ K ≠ 6 ∧ K ≠ 7 ∧ K ≠ 10 ∧ K ≠ 8)) ∧ (s.size ≤ 512 → q % 512 = q) := by
  have hkt : k < ts.length := by omega
  have hkp : k < pl.length := by omega
  have b31 := hb1.size
  have b32 := hb2.size
  have b33 := hb3.size
  have b34 := hbr.size
  obtain ⟨e1, e2, e3, e4⟩ := hf.get k hk hkt hkp
  have hmk := hms _ (List.getElem_mem hk)
  obtain ⟨gb, rfl, hgb, hc⟩ := row_at (f := mkCells) (fun _ => rfl) h1 rfl k hk
  rw [map_flat] at h2
  obtain ⟨ga, rfl, hga, ha⟩ := row_at (f := fun q : Nat => [Value.int .i64 q]) (fun _ => rfl) h2 hpl k hkp
  obtain ⟨ge, rfl, hge, he⟩ := row_at (f := extCells) (fun _ => rfl) h3 rfl k hkt
  have r1 : ∀ j, wr.cell? ⟨gb, k * 4 + j, none⟩ = w1.cell? ⟨gb, k * 4 + j, none⟩ := fun j => (((hbr.cell (p := ⟨gb, k * 4 + j, none⟩) (show gb < w3.heap.size by omega))).trans (hb3.cell (p := ⟨gb, k * 4 + j, none⟩) (show gb < w2.heap.size by omega))).trans (hb2.cell (p := ⟨gb, k * 4 + j, none⟩) hgb)
  have r2 : ∀ j, wr.cell? ⟨ga, k * 1 + j, none⟩ = w2.cell? ⟨ga, k * 1 + j, none⟩ := fun j => ((hbr.cell (p := ⟨ga, k * 1 + j, none⟩) (show ga < w3.heap.size by omega))).trans (hb3.cell (p := ⟨ga, k * 1 + j, none⟩) hga)
  have r3 : ∀ j, wr.cell? ⟨ge, k * 5 + j, none⟩ = w3.cell? ⟨ge, k * 5 + j, none⟩ := fun j => hbr.cell (p := ⟨ge, k * 5 + j, none⟩) hge
  have hplace := parts_place ms 0 0 _ pl hp hms k hkp
  refine ⟨(ms[k]'hk).kind, (ms[k]'hk).body, ⟨(ms[k]'hk).body.toArray⟩, ⟨(ms[k]'hk).text.toArray⟩, (ms[k]'hk).n, (ts[k]'hkt).2.1, pl[k]'hkp, ⟨gb, ge, ga, rfl, rfl, rfl, by omega, by omega, by omega, ?_, ?_, ?_, ?_, ?_, ?_, ?_, ?_, ?_, ?_⟩, (mark_tok hmk).1, ?_, ?_⟩
  · exact (r1 0).trans (hc 0 (by decide))
  · exact (r1 1).trans (hc 1 (by decide))
  · exact (r1 2).trans (hc 2 (by decide))
  · exact (r1 3).trans (hc 3 (by decide))
  · rw [← e1]; exact (r3 0).trans (he 0 (by decide))
  · exact (r3 1).trans (he 1 (by decide))
  · exact (r3 2).trans (he 2 (by decide))
  · exact (r3 3).trans (he 3 (by decide))
  · rw [← e4]; exact (r3 4).trans (he 4 (by decide))
  · have := (r2 0).trans (ha 0 (by decide))
    simpa using this
  · by_cases h9 : (ms[k]'hk).kind = 9
    · exact .inl ⟨h9, by rw [e2.1 h9]⟩
    · by_cases h6 : (ms[k]'hk).kind = 6 ∨ (ms[k]'hk).kind = 7 ∨ (ms[k]'hk).kind = 10
      · exact .inr (.inl ⟨h6, (e2.2.1 h6).symm⟩)
      · by_cases h8 : (ms[k]'hk).kind = 8
        · exact .inr (.inr (.inl ⟨h8, flo_text hmk h8 (e2.2.2 h8)⟩))
        · exact .inr (.inr (.inr ⟨h9, fun h => h6 (.inl h), fun h => h6 (.inr (.inl h)), fun h => h6 (.inr (.inr h)), h8⟩))
  · intro h5
    have : s.data.toList.length = s.size := rfl
    omega

set_option maxRecDepth 1000000 in
set_option maxHeartbeats 40000000 in
/-- The law. -/
theorem lawTokens (L : List Int) (A : Option Addr) (c : Nat) (code : List Int) (A2 : Option Addr) (c2 : Nat) (ea : Addr) (w : World) (hA : ReadsInt w .u32 A L.length L) (hL : ∀ x ∈ L, Kd.u32 x) (hA2 : Kd.C (Kd.int .u8) w A2 code.length code) (hcode : ∀ x ∈ code, 0 ≤ x ∧ x ≤ 255) (hv : TokVars ea w) :
    Calls Tryz.prog 5 #[.slice A L.length c, .slice A2 code.length c2] w fun e w' => e = .returned (.bool true) ∧ Below w.heap.size w w' := by
  by_cases h1 : L.length ≤ 100
  · by_cases h2 : code.length ≤ 2000
    · have HX := Lib.hid (extMarks L A c w hA hL h1)
      have HA2 := Lib.hid hA2
      have HCD := Lib.hid hcode
      have HV := Lib.hid hv
      clear hA hL hA2 hcode hv
      go_enter Tryz.func5, Tryz.ntmps5
      go_wp2_with fail
      refine (HX.out).mono ?_
      rintro e w1 ⟨ms, v, rfl, hms, hlen, hown, hb1⟩
      obtain ⟨ao, cap, rfl⟩ := row_slice hown
      have HMS := Lib.hid hms
      have HOWN := Lib.hid hown
      have HB1 := Lib.hid hb1
      have hml : ms.length ≤ 100 := by omega
      have HLEN := Lib.hid hlen
      clear hms hown hb1 HX hlen
      go_wp2_with fail
      refine (extMarksText ms HMS.out hml code A2 c2 ao cap (w.heap.size + 1) w1 (Kd.C_below HA2.out HB1.out) HCD.out (by omega) HOWN.out).mono ?_
      rintro e w2 ⟨s, pl, v2, rfl, hparts, hs, hpll, hown2, hb2⟩
      obtain ⟨ao2, cap2, rfl⟩ := row_slice hown2
      obtain ⟨ts, hfits, htoks⟩ := toks_all ms s.data.toList pl hparts HMS.out
      have hfl := hfits.len
      have htl := hfl.1
      have HTV := Lib.hid (HV.out.below (HB1.out.trans (hb2.mono HB1.out.size)))
      have HPT := Lib.hid hparts
      have HPL := Lib.hid hpll
      have HOWN2 := Lib.hid hown2
      have HB2 := Lib.hid hb2
      have HF := Lib.hid hfits
      have HT := Lib.hid htoks
      have HTL := Lib.hid htl
      have hts100 : ts.length ≤ 100 := by omega
      clear hparts hpll hown2 hb2 hfits htoks hfl htl
      go_wp2_with fail
      refine (extTokensQ s (by omega) ea w2 HTV.out (1 + ms.length) ts true (by omega) (fits_kind HF.out HMS.out) (fits_inR HF.out) HT.out).mono ?_
      rintro e w3 ⟨v3, rfl, hown3, hb3⟩
      obtain ⟨ao3, cap3, rfl⟩ := row_slice hown3
      have HOWN3 := Lib.hid hown3
      have HB3 := Lib.hid hb3
      have HBW := Lib.hid ((HB1.out.trans (HB2.out.mono HB1.out.size)).trans (hb3.mono (Nat.le_trans HB1.out.size HB2.out.size)))
      clear hown3 hb3
      have htl := HTL.out
      rw [htl]
      clear htl
      go_wp2_with fail
      go_loopg [57] ms.length (fun m i wx => Aside (LT w3 ms.length m i wx))
      case atStart => exact ⟨0, by omega, by omega, rfl, Below.refl _ _⟩
      case round =>
        obtain ⟨k, hk, hm, rfl, hbel⟩ := hrel.out
        clear hrel
        have HM1 := Lib.hid hm
        have HBEL := Lib.hid hbel
        clear hm hbel
        by_cases hkn : k < ms.length
        · obtain ⟨K, body, bb, tt, n1, V, q, hin⟩ := round_in HB1.out HB2.out HB3.out HBEL.out HOWN.out HOWN2.out HOWN3.out HMS.out HF.out HPT.out HTL.out HPL.out k hkn
          obtain ⟨⟨gb, ge, ga, rfl, rfl, rfl, hgb, hge, hga, c0, c1, c2, c3, d0, d1, d2, d3, d4, a0⟩, hK, hcase, hq⟩ := hin
          have HQ := Lib.hid hq
          clear hq
          obtain ⟨vt, hvt⟩ : ∃ vt : ByteArray, vt = ⟨V.text.toArray⟩ := ⟨_, rfl⟩
          obtain ⟨vn, hvn⟩ : ∃ vn : Int, vn = V.num := ⟨_, rfl⟩
          obtain ⟨vb, hvb⟩ : ∃ vb : Nat, vb = V.bits := ⟨_, rfl⟩
          obtain ⟨qq, hqq⟩ : ∃ qq : Nat, qq = q % 512 := ⟨_, rfl⟩
          rw [← hvt, ← hvn, ← hvb] at hcase
          rw [← hvt] at d1
          rw [← hvn] at d2
          rw [← hvb] at d3
          rw [← hqq] at d4
          have HQQ := Lib.hid hqq
          clear hvt hvn hvb hqq
          by_cases h512 : s.size ≤ 512
          · have hqe := HQ.out h512
            rw [← HQQ.out] at hqe
            subst hqe
            have h512i : (s.size : Int) ≤ 512 := by omega
            have h512d : decide ((s.size : Int) ≤ 512) = true := decide_eq_true h512i
            rcases hcase with ⟨rfl, rfl⟩ | ⟨h6, rfl⟩ | ⟨rfl, hfl⟩ | ⟨n9, n6, n7, n10, n8⟩
            · as_aux_lemma =>
              go_wp2_with fail
              go_quiet (fail)
              go_wp2
              go_roundg (ms.length - (k + 1))
              case measure => have := HM1.out; omega
              case rel => exact lt_step hkn HBEL.out
            · rcases h6 with rfl | rfl | rfl
              · as_aux_lemma =>
                go_wp2_with fail
                go_quiet (fail)
                go_wp2
                go_roundg (ms.length - (k + 1))
                case measure => have := HM1.out; omega
                case rel => exact lt_step hkn HBEL.out
              · as_aux_lemma =>
                go_wp2_with fail
                go_quiet (fail)
                go_wp2
                go_roundg (ms.length - (k + 1))
                case measure => have := HM1.out; omega
                case rel => exact lt_step hkn HBEL.out
              · as_aux_lemma =>
                go_wp2_with fail
                go_quiet (fail)
                go_wp2
                go_roundg (ms.length - (k + 1))
                case measure => have := HM1.out; omega
                case rel => exact lt_step hkn HBEL.out
            · as_aux_lemma =>
              obtain ⟨f1, f2, f3, f4, f5, f6⟩ := hfl
              have HF2 := Lib.hid f3
              have HF3 := Lib.hid f4
              have HF4 := Lib.hid f6
              clear f3 f4 f6
              go_wp2_with fail
              go_quiet (fail)
              go_wp2_with fail
              refine (extFloatOf bb f1 f2 HF2.out HF3.out f5 w2 pfQuick (pfQuick_C w2 HTV.out.flo) vb HF4.out _ (old_round HB3.out HBEL.out _)).mono ?_
              rintro e w9 ⟨rfl, hb9⟩
              have hv9 := flo_cell hb9
              have HB9 := Lib.hid hb9
              clear hb9
              go_wp2_with fail
              go_roundg (ms.length - (k + 1))
              case measure => have := HM1.out; omega
              case rel => exact lt_step9 hkn HBEL.out HB9.out
            · have b9 : ((K : Int) == 9) = false := beq_eq_false_iff_ne.2 (by omega)
              have b6 : ((K : Int) == 6) = false := beq_eq_false_iff_ne.2 (by omega)
              have b7 : ((K : Int) == 7) = false := beq_eq_false_iff_ne.2 (by omega)
              have b10 : ((K : Int) == 10) = false := beq_eq_false_iff_ne.2 (by omega)
              have b8 : ((K : Int) == 8) = false := beq_eq_false_iff_ne.2 (by omega)
              as_aux_lemma =>
              go_wp2_with fail
              go_quiet (fail)
              go_wp2
              go_roundg (ms.length - (k + 1))
              case measure => have := HM1.out; omega
              case rel => exact lt_step hkn HBEL.out
          · have h512i : ¬ (s.size : Int) ≤ 512 := by omega
            have h512d : decide ((s.size : Int) ≤ 512) = false := decide_eq_false h512i
            rcases hcase with ⟨rfl, rfl⟩ | ⟨h6, rfl⟩ | ⟨rfl, hfl⟩ | ⟨n9, n6, n7, n10, n8⟩
            · as_aux_lemma =>
              go_wp2_with fail
              go_quiet (fail)
              go_wp2
              go_roundg (ms.length - (k + 1))
              case measure => have := HM1.out; omega
              case rel => exact lt_step hkn HBEL.out
            · rcases h6 with rfl | rfl | rfl
              · as_aux_lemma =>
                go_wp2_with fail
                go_quiet (fail)
                go_wp2
                go_roundg (ms.length - (k + 1))
                case measure => have := HM1.out; omega
                case rel => exact lt_step hkn HBEL.out
              · as_aux_lemma =>
                go_wp2_with fail
                go_quiet (fail)
                go_wp2
                go_roundg (ms.length - (k + 1))
                case measure => have := HM1.out; omega
                case rel => exact lt_step hkn HBEL.out
              · as_aux_lemma =>
                go_wp2_with fail
                go_quiet (fail)
                go_wp2
                go_roundg (ms.length - (k + 1))
                case measure => have := HM1.out; omega
                case rel => exact lt_step hkn HBEL.out
            · as_aux_lemma =>
              obtain ⟨f1, f2, f3, f4, f5, f6⟩ := hfl
              have HF2 := Lib.hid f3
              have HF3 := Lib.hid f4
              have HF4 := Lib.hid f6
              clear f3 f4 f6
              go_wp2_with fail
              go_quiet (fail)
              go_wp2_with fail
              refine (extFloatOf bb f1 f2 HF2.out HF3.out f5 w2 pfQuick (pfQuick_C w2 HTV.out.flo) vb HF4.out _ (old_round HB3.out HBEL.out _)).mono ?_
              rintro e w9 ⟨rfl, hb9⟩
              have hv9 := flo_cell hb9
              have HB9 := Lib.hid hb9
              clear hb9
              go_wp2_with fail
              go_roundg (ms.length - (k + 1))
              case measure => have := HM1.out; omega
              case rel => exact lt_step9 hkn HBEL.out HB9.out
            · have b9 : ((K : Int) == 9) = false := beq_eq_false_iff_ne.2 (by omega)
              have b6 : ((K : Int) == 6) = false := beq_eq_false_iff_ne.2 (by omega)
              have b7 : ((K : Int) == 7) = false := beq_eq_false_iff_ne.2 (by omega)
              have b10 : ((K : Int) == 10) = false := beq_eq_false_iff_ne.2 (by omega)
              have b8 : ((K : Int) == 8) = false := beq_eq_false_iff_ne.2 (by omega)
              as_aux_lemma =>
              go_wp2_with fail
              go_quiet (fail)
              go_wp2
              go_roundg (ms.length - (k + 1))
              case measure => have := HM1.out; omega
              case rel => exact lt_step hkn HBEL.out
        · have hge : ¬ (k : Int) < ms.length := by omega
          have hbt := HB1.out.trans (HB2.out.mono HB1.out.size)
          have HT1 := Lib.hid one_toks
          as_aux_lemma =>
          go_wp2_with fail
          refine (extTokensQ ⟨#[91, 49, 93]⟩ (by decide) ea wr (HTV.out.below (HB3.out.trans (HBEL.out.mono HB3.out.size))) 4 _ true (by decide) (by decide) (by simp [TV.inR]) HT1.out).mono ?_
          rintro e w4 ⟨v4, rfl, hown4, hb4⟩
          obtain ⟨ao4, cap4, rfl⟩ := row_slice hown4
          have HB4 := Lib.hid hb4
          clear hown4 hb4
          go_wp2_with fail
          go_ret
          exact ⟨rfl, (HBW.out.trans (HBEL.out.mono HBW.out.size)).trans (HB4.out.mono (Nat.le_trans HBW.out.size HBEL.out.size))⟩
    · go_enter Tryz.func5, Tryz.ntmps5
      go_wp2
      all_goals (go_ret; exact ⟨rfl, Below.refl _ w⟩)
  · go_enter Tryz.func5, Tryz.ntmps5
    go_wp2
    all_goals (go_ret; exact ⟨rfl, Below.refl _ w⟩)

end Go.Proofs.YtdabllkphibfmaaGreatDoor
