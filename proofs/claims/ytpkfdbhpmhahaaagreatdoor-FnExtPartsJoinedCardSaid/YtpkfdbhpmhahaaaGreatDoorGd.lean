/- The text of a value with its parts. -/
import Derived.Test.YtpkfdbhpmhahaaaGreatDoorScb
namespace Go.Proofs.YtpkfdbhpmhahaaaGreatDoor
open Go Go.RowKit
set_option linter.unusedSimpArgs false
set_option linter.unusedVariables false

open Classical in
/-- The text of a value without parts. -/
noncomputable def scT (can : Bool) (K : Int) (t m : ByteArray) (n b h : Int) (bs : List UInt8) : List UInt8 :=
  if H : Sc1 can K t m n b h bs then Classical.choose H else [44]
theorem scT_spec {can : Bool} {K : Int} {t m : ByteArray} {n b h : Int} {bs : List UInt8} (H : Sc1 can K t m n b h bs) : Ends (scT can K t m n b h bs) ∧ (scT can K t m n b h bs).length ≤ 20000 ∧ ScW can K t m n b h bs (scT can K t m n b h bs) := by
  unfold scT
  rw [dif_pos H]
  exact Classical.choose_spec H

/-- The bracket at the end. -/
def clo (l : List UInt8) (c : UInt8) : List UInt8 := closeB l.dropLast (l.getLast?.getD 0) c
theorem clo_eq (pre : List UInt8) (x c : UInt8) : clo (pre ++ [x]) c = closeB pre x c := by
  unfold clo
  rw [List.dropLast_concat, List.getLast?_concat]
  rfl
theorem closeB_app (b pre : List UInt8) (x c : UInt8) : closeB (b ++ pre) x c = b ++ closeB pre x c := by
  unfold closeB
  split <;> simp
theorem last_of {l : List UInt8} (h : l ≠ []) : ∃ pre x, l = pre ++ [x] := ⟨l.dropLast, l.getLast h, (List.dropLast_concat_getLast h).symm⟩
theorem closeB_len (pre : List UInt8) (x c : UInt8) : (closeB pre x c).length ≤ pre.length + 2 := by
  unfold closeB
  split <;> simp
/-- The head of code with its scope. -/
def cwsH (t : ByteArray) : List UInt8 := [] ++ (⟨#[123, 34, 36, 99, 111, 100, 101, 34, 58]⟩ : ByteArray).data.toList ++ escT t ++ (⟨#[44, 34, 36, 115, 99, 111, 112, 101, 34, 58, 123]⟩ : ByteArray).data.toList

mutual
noncomputable def vt (can : Bool) : T → List UInt8
  | .mk K t m n b h bs ks => if K = 3 then clo ([123] ++ ktx can ks) 125 ++ [44] else if K = 4 then clo ([91] ++ atx can ks) 93 ++ [44] else if K = 15 then clo (cwsH t ++ ktx can ks) 125 ++ [125] ++ [44] else scT can K t m n b h bs
noncomputable def ktx (can : Bool) : List (ByteArray × T) → List UInt8
  | [] => []
  | (nm, x) :: r => (escT nm ++ [58] ++ vt can x) ++ ktx can r
noncomputable def atx (can : Bool) : List (ByteArray × T) → List UInt8
  | [] => []
  | (_, x) :: r => vt can x ++ atx can r
end
theorem ktx_append (can : Bool) : ∀ a b : List (ByteArray × T), ktx can (a ++ b) = ktx can a ++ ktx can b
  | [], b => by simp [ktx]
  | (nm, x) :: r, b => by
    have := ktx_append can r b
    simp only [List.cons_append, ktx, this, List.append_assoc]
theorem atx_append (can : Bool) : ∀ a b : List (ByteArray × T), atx can (a ++ b) = atx can a ++ atx can b
  | [], b => by simp [atx]
  | (nm, x) :: r, b => by
    have := atx_append can r b
    simp only [List.cons_append, atx, this, List.append_assoc]

/-- All of it is small; options are letters. -/
inductive SmallT : T → Prop
  | mk {K : Int} {t m : ByteArray} {n b h : Int} {bs : List UInt8} {ks : List (ByteArray × T)} (hs : SmallN K t m n b h bs) (hn : ∀ e ∈ ks, e.1.size ≤ 300) (hk : ∀ e ∈ ks, SmallT e.2) : SmallT (.mk K t m n b h bs ks)

theorem clo_len (l : List UInt8) (c : UInt8) : (clo l c).length ≤ l.length + 2 := by
  unfold clo
  have := closeB_len l.dropLast (l.getLast?.getD 0) c
  simp only [List.length_dropLast] at this
  omega
theorem cwsH_len (t : ByteArray) (h : t.size ≤ 300) : (cwsH t).length ≤ 3000 := by
  have := (escT_length t h).1
  unfold cwsH
  simp
  omega
theorem ktx_len (can : Bool) (ks : List (ByteArray × T)) : (∀ e ∈ ks, e.1.size ≤ 300) → (∀ e ∈ ks, (vt can e.2).length ≤ 30000 * e.2.nodes - 10000) → (ktx can ks).length ≤ 30000 * nodesL ks := by
  induction ks with
  | nil => intro _ _; simp [ktx, nodesL]
  | cons a r ih =>
    obtain ⟨nm, x⟩ := a
    intro h1 h2
    have h3 := h2 (nm, x) (by simp)
    have h4 := (escT_length nm (h1 (nm, x) (by simp))).1
    have h5 := ih (fun e he => h1 e (by simp [he])) (fun e he => h2 e (by simp [he]))
    have h6 := x.nodes_pos
    simp only at h3
    simp only [ktx, nodesL, List.length_append, List.length_cons, List.length_nil]
    omega
theorem atx_len (can : Bool) (ks : List (ByteArray × T)) : (∀ e ∈ ks, (vt can e.2).length ≤ 30000 * e.2.nodes - 10000) → (atx can ks).length ≤ 30000 * nodesL ks := by
  induction ks with
  | nil => intro _; simp [atx, nodesL]
  | cons a r ih =>
    obtain ⟨nm, x⟩ := a
    intro h2
    have h3 := h2 (nm, x) (by simp)
    have h5 := ih (fun e he => h2 e (by simp [he]))
    have h6 := x.nodes_pos
    simp only at h3
    simp only [atx, nodesL, List.length_append]
    omega
theorem vt_ok (can : Bool) (x : T) : SmallT x → KnownT x → Ends (vt can x) ∧ (vt can x).length ≤ 30000 * x.nodes - 10000 := by
  induction x using T.ind with
  | h K t m n b h bs ks ih =>
  intro hs hk
  cases hs with
  | mk hsn hnm hsk =>
  cases hk with
  | mk hK hkk =>
  unfold vt
  simp only [T.nodes]
  by_cases h3 : K = 3
  · rw [if_pos h3]
    have h1 := ktx_len can ks hnm (fun e he => (ih e he (hsk e he) (hkk (.inl h3) e he)).2)
    have h2 := clo_len ([123] ++ ktx can ks) 125
    refine ⟨ends_add _, ?_⟩
    simp only [List.length_append, List.length_cons, List.length_nil] at h2 ⊢
    omega
  · rw [if_neg h3]
    by_cases h4 : K = 4
    · rw [if_pos h4]
      have h1 := atx_len can ks (fun e he => (ih e he (hsk e he) (hkk (.inr (.inl h4)) e he)).2)
      have h2 := clo_len ([91] ++ atx can ks) 93
      refine ⟨ends_add _, ?_⟩
      simp only [List.length_append, List.length_cons, List.length_nil] at h2 ⊢
      omega
    · rw [if_neg h4]
      by_cases h15 : K = 15
      · rw [if_pos h15]
        have h1 := ktx_len can ks hnm (fun e he => (ih e he (hsk e he) (hkk (.inr (.inr h15)) e he)).2)
        have h2 := clo_len (cwsH t ++ ktx can ks) 125
        have h5 := cwsH_len t hsn.ht
        refine ⟨ends_add _, ?_⟩
        simp only [List.length_append, List.length_cons, List.length_nil] at h2 ⊢
        omega
      · rw [if_neg h15]
        obtain ⟨h1, h2, _⟩ := scT_spec (scalarC can K t m n b h bs hK h3 h4 h15 hsn)
        exact ⟨h1, by omega⟩
theorem ktx_ends (can : Bool) : ∀ ks : List (ByteArray × T), (∀ e ∈ ks, Ends (vt can e.2)) → ks ≠ [] → Ends (ktx can ks)
  | [], _, h => absurd rfl h
  | [(nm, x)], h, _ => by
    obtain ⟨l, hl⟩ := h (nm, x) (by simp)
    simp only at hl
    exact ⟨escT nm ++ [58] ++ l, by simp [ktx, hl]⟩
  | (nm, x) :: b :: r, h, _ => by
    obtain ⟨l, hl⟩ := ktx_ends can (b :: r) (fun e he => h e (by simp [he])) (by simp)
    exact ⟨escT nm ++ [58] ++ vt can x ++ l, by rw [ktx, hl]; simp⟩

end Go.Proofs.YtpkfdbhpmhahaaaGreatDoor

/- The parts of a document are written. -/
namespace Go.Proofs.YtpkfdbhpmhahaaaGreatDoor
open Go Go.RowKit
set_option linter.unusedSimpArgs false
set_option linter.unusedVariables false

/-- A value is written. -/
def VOK (can : Bool) (x : T) : Prop :=
  ∀ (base gw : Nat) (iv : Value) (bs0 : List UInt8) (ms1 : List Int) (m1 mm : Int) (bv : Value) (gs n cap : Nat) (w : World), Wr base gw iv can bs0 (ms1 ++ [m1]) mm bv gs n cap w → (mm = 4 ∨ mm = 5) → 13 ≤ base → Tabs w → bs0.length + 30000 * x.nodes ≤ 700000000 → ms1.length + 2 * x.nodes ≤ 690 →
    ∀ v, VAt w base x v → Calls Tryz.prog 25 #[.pointer (some ⟨gw, 0, none⟩), v] w (NilR (WF base gw iv can (bs0 ++ vt can x) ms1 m1 gs bv w))

/-- A key, in whichever document. -/
theorem Wr.wKey {base gw : Nat} {iv : Value} {can : Bool} {bs : List UInt8} {ms0 : List Int} {m : Int} {bv : Value} {gs n cap : Nat} {w : World} (h : Wr base gw iv can bs ms0 m bv gs n cap w) (hm : m = 1 ∨ m = 2 ∨ m = 6) (hB : 13 ≤ base) (hT : Tabs w) (hbl : bs.length ≤ 800000000) (hd : ms0.length ≤ 700) (s : ByteArray) (hs : s.size ≤ 300) :
    Calls Tryz.prog 24 #[.pointer (some ⟨gw, 0, none⟩), .string s] w (fun e w' => e = .returned (.tuple #[.iface 40 (.pointer (some ⟨gw, 0, none⟩)), .nilIface]) ∧ WF base gw iv can (bs ++ (escT s ++ [58])) (ms0 ++ [m]) 5 gs bv w w') := by
  have he := escT_length s hs
  have hx : ((⟨(escT s).toArray⟩ : ByteArray) ++ ⟨#[58]⟩).data.toList = escT s ++ [58] := by simp [ByteArray.data_append]
  have hz : ((⟨(escT s).toArray⟩ : ByteArray) ++ ⟨#[58]⟩).size = (escT s).length + 1 := by rw [ByteArray.size_append]; rfl
  rw [← hx]
  rcases hm with rfl | rfl | rfl
  · exact h.wKey1 hB hT hbl hd s (escT s) (by omega) (escC s (by omega)) _ rfl (by omega) (by omega)
  · exact h.wKey2 hB hT hbl hd s (escT s) (by omega) (escC s (by omega)) _ rfl (by omega) (by omega)
  · exact h.wKey6 hB hT hbl hd s (escT s) (by omega) (escC s (by omega)) _ rfl (by omega) (by omega)

/-- A struct is loaded behind a guard. -/
theorem wpList_load_mid_g {P : Program} {ops : Array Oper} {rest : List Oper} {op : Oper} {a : Act} {w : World} {Q : Exit → Act → World → Prop} (hw : Region.wanted op (yielded ops a.tmps) = true) (ty : TypeId) (x : Operand) (ho : op.op = .load ty x)
    (b o : Nat) (hx : a.eval x = .pointer (some ⟨b, o, none⟩)) (cs : List Value) (d : TypeDesc) (hc : w.rangeAt b o cs)
    (hu : P.underlying ty = some d) (hd : d.isRow = true) (hi : (P.info? ty).map (·.size) = some cs.length)
    (h : wpList P ops Q rest (a.put op.dst (.agg cs.toArray)) w) : wpList P ops Q (op :: rest) a w :=
  wpList_step fun K hK => by
    rw [if_pos hw]
    exact wp_load_mid ty x ho b o hx cs d hc hu hd hi (hK _ _ h)
def TrueR (R : World → Prop) (e : Ending) (w' : World) : Prop := e = .returned (.bool true) ∧ R w'

theorem nodes_take (ks : List (ByteArray × T)) (i : Nat) (hi : i < ks.length) : nodesL (ks.take i) + ks[i].2.nodes ≤ nodesL ks := by
  induction ks generalizing i with
  | nil => simp at hi
  | cons a r ih =>
    obtain ⟨nm, x⟩ := a
    cases i with
    | zero => simp [nodesL]
    | succ i =>
      have := ih i (by simpa using hi)
      simp only [List.take_succ_cons, nodesL, List.getElem_cons_succ]
      omega

set_option maxRecDepth 100000 in
set_option maxHeartbeats 8000000 in
theorem kidsW (can : Bool) (M : Int) (hM : M = 1 ∨ M = 2 ∨ M = 6) (ks : List (ByteArray × T)) (hnm : ∀ e ∈ ks, e.1.size ≤ 300) (hln : ∀ i, i ≤ ks.length → (ktx can (ks.take i)).length ≤ 30000 * nodesL (ks.take i)) (IH : ∀ e ∈ ks, VOK can e.2)
    (base gw : Nat) (iv : Value) (bs0 : List UInt8) (ms0 : List Int) (bv : Value) (gs n cap : Nat) (w : World) (h : Wr base gw iv can bs0 ms0 M bv gs n cap w) (hB : 13 ≤ base) (hT : Tabs w) (hbl : bs0.length + 30000 * nodesL ks ≤ 699980000) (hd : ms0.length + 2 * nodesL ks ≤ 690) (hno : nodesL ks ≤ 300)
    (ka : Option Addr) (kn kc kb ko : Nat) (C : Nat → Array Value) (hkn : kn = ks.length) (hkc : kn ≤ kc) (hka : ks ≠ [] → ka = some ⟨kb, ko, none⟩ ∧ kb < base)
    (hks : ∀ i (hi : i < ks.length), w.rangeAt kb (ko + i * 9) (.string (ks[i].1) :: (C i).toList)) (hsub : ∀ i (hi : i < ks.length), VAt w base (ks[i].2) (.agg (C i)))
    (R : World → Prop) (hEnd : ∀ bv2 gs2 n2 cap2 W, Wr base gw iv can (bs0 ++ ktx can ks) ms0 M bv2 gs2 n2 cap2 W → Fr gw gs bv w gs2 bv2 W → Tabs W → Calls Tryz.prog 26 #[.pointer (some ⟨gw, 0, none⟩)] W (NilR R)) :
    Calls Tryz.prog 12 #[.pointer (some ⟨gw, 0, none⟩), .slice ka kn kc] w (TrueR R) := by
  have hlk : ks.length ≤ 300 := Nat.le_trans (nodesL_length ks) hno
  have HW := Lib.hid h
  have HT := Lib.hid hT
  have HB := Lib.hid (And.intro hbl (And.intro hd hno))
  have HX := Lib.hid (And.intro hka (And.intro hks hsub))
  have HN := Lib.hid (And.intro hnm (And.intro hln IH))
  have HKN := Lib.hid (And.intro hkn hlk)
  have HE := Lib.hid hEnd
  have hkb : kn ≤ 300 := by omega
  clear h hT hbl hd hno hka hks hsub hnm hln IH hkn hlk hEnd
  go_enter Tryz.func12, Tryz.ntmps12
  go_wp2
  go_loopg [11] kn (fun m v wx => Aside (∃ i : Nat, m = kn - i ∧ i ≤ kn ∧ v = .int .i64 (i : Nat) ∧ WF base gw iv can (bs0 ++ ktx can (ks.take i)) ms0 M gs bv w wx))
  case atStart => exact ⟨0, rfl, by omega, rfl, by rw [List.take_zero, ktx, List.append_nil]; exact ⟨_, _, _, _, HW.out, Fr.refl _ _ _ _⟩⟩
  case round =>
    obtain ⟨i, rfl, hi, rfl, bv1, gs1, n1, cap1, hw1, hf1⟩ := hrel.out
    clear hrel
    have hT1 := HT.out.wr HW.out hf1 hB
    have hold := fun k hk => Fr.old HW.out hf1 k hk
    have H1 := Lib.hid (And.intro hw1 (And.intro hf1 (And.intro hT1 hold)))
    clear hw1 hf1 hT1 hold
    by_cases hlt : i < kn
    · have hik : i < ks.length := by have := HKN.out; omega
      have hkne : ks ≠ [] := by rintro rfl; simp at hik
      obtain ⟨hka, hkb2⟩ := HX.out.1 hkne
      have hra := HX.out.2.1 i hik
      have hva := HX.out.2.2 i hik
      obtain ⟨nm, hn0⟩ : ∃ nm, nm = ks[i].1 := ⟨_, rfl⟩
      obtain ⟨tr, ht0⟩ : ∃ tr, tr = ks[i].2 := ⟨_, rfl⟩
      obtain ⟨cv, hc0⟩ : ∃ cv, cv = C i := ⟨_, rfl⟩
      rw [← hn0, ← hc0] at hra
      rw [← ht0, ← hc0] at hva
      subst hka
      have hmem := List.getElem_mem hik
      have hns : nm.size ≤ 300 := by rw [hn0]; exact HN.out.1 _ hmem
      have hvok : VOK can tr := by rw [ht0]; exact HN.out.2.2 _ hmem
      have htk : ktx can (ks.take (i + 1)) = ktx can (ks.take i) ++ (escT nm ++ [58] ++ vt can tr) := by
        rw [List.take_succ_eq_append_getElem hik, ktx_append]
        congr 1
        rw [show ks[i] = (nm, tr) by rw [hn0, ht0]]
        simp [ktx]
      have hno2 : nodesL (ks.take i) + tr.nodes ≤ nodesL ks := by rw [ht0]; exact nodes_take ks i hik
      have hle := HN.out.2.1 i (Nat.le_of_lt hik)
      have hen := (escT_length nm hns).1
      have HI := Lib.hid (And.intro hns (And.intro hvok (And.intro htk (And.intro hno2 (And.intro hle hen)))))
      obtain ⟨hc8, hc1⟩ := hva.size
      have HVA := Lib.hid hva
      have HC8 := Lib.hid hc8
      have HC1 := Lib.hid hc1
      have HRA := Lib.hid (rangeAt_kept hra (H1.out.2.2.2 kb hkb2))
      clear hn0 ht0 hc0 hra hva hc8 hc1 hkne hmem hns hvok htk hno2 hle hen
      go_upto_region 4 with (first | ((with_reducible refine wpList_at (some 14) ?_); refine wpList_load_mid rfl 33 (.tmp 13) rfl kb (ko + i * 9) rfl (.string nm :: cv.toList) _ HRA.out Tryz.underlying33 rfl (kid_info HC8.out) ?_) | ((with_reducible refine wpList_at none ?_); refine wpList_store_new rfl 33 (.tmp 6) (.tmp 14) rfl rfl _ _ (Value.string nm :: cv.toList).toArray _ rfl rfl (kid_info2 HC8.out) (kid_size HC8.out) (kid_one HC1.out) ?_))
      have hA6 := heap_alloc_new wr (.cells (Value.string nm :: cv.toList).toArray 33)
      have hb6 := (Below.refl wr.heap.size wr).alloc (Nat.le_refl _) (.cells (Value.string nm :: cv.toList).toArray 33)
      have hsz6 : wr.heap.size < (wr.alloc (.cells (Value.string nm :: cv.toList).toArray 33)).heap.size := by simp
      generalize wr.alloc (.cells (Value.string nm :: cv.toList).toArray 33) = W6 at hA6 hb6 hsz6 ⊢
      have cn : W6.cell? ⟨wr.heap.size, 0, none⟩ = some (.string nm) := kid_name hA6
      have hkey := (H1.out.1.bel hb6).wKey hM hB (H1.out.2.2.1.bel hb6 H1.out.2.2.1.big) (by have h1 := HB.out; have h2 := HI.out; rw [List.length_append]; omega) (by have := HB.out; omega) nm HI.out.1
      have HK := Lib.hid hkey
      have H6 := Lib.hid (And.intro hA6 (And.intro hb6 hsz6))
      clear hkey hA6 hb6 hsz6
      go_upto_region 5 with (first | (go_at_call 24; refine (HK.out).mono ?_; rintro e2 w2 ⟨rfl, bv2, gs2, n2, cap2, hw2, hf2⟩))
      have hlt1 := H1.out.1.lt
      have hA2 : w2.heap[wr.heap.size]? = some (.cells (Value.string nm :: cv.toList).toArray 33 (0, 0)) := (hf2.1.block wr.heap.size H6.out.2.2 (by omega) (by omega) (fun e => by have := (hlt1.2.2.1 _ e).2; omega)).trans H6.out.1
      obtain ⟨bv3, gs3, n3, cap3, hw3, hf3⟩ := (H1.out.2.1.bel H6.out.2.1).to (Fr.wrto hw2 hf2)
      clear hw2 hf2 bv2 gs2 n2 cap2
      have hT3 := HT.out.wr HW.out hf3 hB
      have hold3 := fun k hk => Fr.old HW.out hf3 k hk
      have hva3 : VAt w2 base tr (.agg cv.toList.toArray) := by
        rw [Array.toArray_toList]
        exact HVA.out.kept (Nat.le_refl _) hold3
      have cr : w2.rangeAt wr.heap.size 1 cv.toList := kid_range hA2
      have hi26 : (Tryz.prog.info? 26).map (·.size) = some cv.toList.length := by rw [info26]; simp [HC8.out]
      have hval := HI.out.2.1 base gw iv _ ms0 M 5 bv3 gs3 n3 cap3 w2 hw3 (.inr rfl) hB hT3 (by have h1 := HB.out; have h2 := HI.out; simp only [List.length_append, List.length_cons, List.length_nil]; omega) (by have := HB.out; have := HI.out; omega) _ hva3
      have HV3 := Lib.hid hval
      have H3 := Lib.hid (And.intro hf3 (And.intro cr hi26))
      clear hval hf3 cr hi26 hva3 hold3 hT3 hw3 hA2 hlt1 cn
      go_wp2_with (first | ((with_reducible refine wpList_at (some 27) ?_); refine wpList_load_mid_g (by rfl) 26 (.tmp 26) rfl wr.heap.size 1 rfl cv.toList _ H3.out.2.1 Tryz.underlying26 rfl H3.out.2.2 ?_) | (go_at_call 25; refine (HV3.out).mono ?_; rintro e4 w4 ⟨rfl, hwf⟩; have HWF := Lib.hid hwf; clear hwf))
      go_roundg (kn - (i + 1))
      case measure => omega
      case rel =>
        refine ⟨i + 1, rfl, by omega, rfl, ?_⟩
        have h1 := H3.out.1.to (WF.wrto HWF.out)
        rw [HI.out.2.2.1]
        simp only [List.append_assoc] at h1 ⊢
        exact h1
    · have hik : i = ks.length := by have := HKN.out; omega
      have htk : ks.take i = ks := by rw [hik]; exact List.take_length
      have hend := HE.out bv1 gs1 n1 cap1 wr (by have := H1.out.1; rw [htk] at this; exact this) H1.out.2.1 H1.out.2.2.1
      have HEND := Lib.hid hend
      clear hend htk hik
      go_wp2_with (first | (go_at_call 26; refine (HEND.out).mono ?_; rintro e2 w2 ⟨rfl, hr⟩; have HRR := Lib.hid hr; clear hr))
      go_ret
      exact ⟨rfl, HRR.out⟩

end Go.Proofs.YtpkfdbhpmhahaaaGreatDoor
