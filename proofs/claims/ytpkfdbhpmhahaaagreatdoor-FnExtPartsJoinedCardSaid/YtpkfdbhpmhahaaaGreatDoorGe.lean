/- ExtWrite: a document's text. -/
import Derived.Test.YtpkfdbhpmhahaaaGreatDoorSce
namespace Go.Proofs.YtpkfdbhpmhahaaaGreatDoor
open Go Go.RowKit
set_option linter.unusedSimpArgs false
set_option linter.unusedVariables false

/-- A writer of one's own, new. -/
def NewW (iv : Value) (can : Bool) (w : World) (e : Ending) (w' : World) : Prop :=
  ∃ gw bv gs, e = .returned (.pointer (some ⟨gw, 0, none⟩)) ∧ Wr w.heap.size gw iv can [] [] 1 bv gs 1 5 w' ∧ Below w.heap.size w w'

theorem third_a (w : World) (A B C : Obj) : (((w.alloc A).alloc B).alloc C).heap[w.heap.size]? = some A ∧ (((w.alloc A).alloc B).alloc C).heap[w.heap.size + 1]? = some B ∧ (((w.alloc A).alloc B).alloc C).heap[w.heap.size + 1 + 1]? = some C := by
  refine ⟨?_, ?_, ?_⟩
  · exact (Below.heap_alloc _ _ _ (by simp; omega)).trans ((Below.heap_alloc _ _ _ (by simp)).trans (heap_alloc_new w A))
  · exact (Below.heap_alloc _ _ _ (by simp)).trans (heap_alloc2_new w A B)
  · have := heap_alloc2_new (w.alloc A) B C
    simpa using this
theorem mk15 (W : World) : (Instr.makeSlice 65 (.int .i64 1) (.int .i64 5)).run Tryz.prog W = .ok (.slice (some ⟨W.heap.size, 0, none⟩) 1 5) (W.alloc (.cells #[.int .i64 0, .int .i64 0, .int .i64 0, .int .i64 0, .int .i64 0] 64)) := by
  obtain ⟨i0, hi0, hz0, hz1, hz2⟩ := info_parts info64
  rw [run_makeSlice W 65 64 i0 _ Tryz.underlying65 hi0 hz0 .i64 .i64 1 5 (by decide) (by decide) (by rw [hz1]; decide) (by rw [hz2]; decide) (by decide), hz1]
  have e : madeCells (Value.agg #[Value.int IntKind.i64 0]).cells (Int.toNat 5 * 1) = #[.int .i64 0, .int .i64 0, .int .i64 0, .int .i64 0, .int .i64 0] := Array.toList_inj.1 (madeCells_one 5)
  rw [e]
  rfl
set_option maxRecDepth 100000 in
set_option maxHeartbeats 4000000 in
theorem newW (gB : Nat) (can : Bool) (w : World) : Calls Tryz.prog 21 #[.iface 42 (.pointer (some ⟨gB, 0, none⟩)), .bool can, .bool false, .bool true] w (NewW (.iface 42 (.pointer (some ⟨gB, 0, none⟩))) can w) := by
  have hmk := mk15
  go_enter Tryz.func21, Tryz.ntmps21
  go_wp2
  go_ret
  refine ⟨w.heap.size + 1 + 1, .slice (some ⟨w.heap.size + 1, 0, none⟩) 0 0, w.heap.size, rfl, ?_, (((Below.refl w.heap.size w).alloc (Nat.le_refl _) _).alloc (by simp) _).alloc (by simp; omega) _⟩
  have t1 := third_a w (.cells #[.int .i64 1, .int .i64 0, .int .i64 0, .int .i64 0, .int .i64 0] 64) (.cells #[] 5) (.cells #[.iface 42 (.pointer (some ⟨gB, 0, none⟩)), .slice (some ⟨w.heap.size + 1, 0, none⟩) 0 0, .slice (some ⟨w.heap.size, 0, none⟩) 1 5, .int .i64 0, .bool can, .bool false, .bool true] 67)
  obtain ⟨t1, t2, t3⟩ := t1
  exact ⟨by omega, Nat.le_refl _, t3, ⟨rfl, .inr ⟨w.heap.size + 1, 0, #[], rfl, by omega, t2, Nat.le_refl _, by decide, rfl, rfl⟩⟩, ⟨[.int .i64 1, .int .i64 0, .int .i64 0, .int .i64 0, .int .i64 0], t1, rfl, fun i h => absurd h (by simp), rfl, fun v hv => by simp at hv; rcases hv with rfl | rfl <;> exact ⟨_, rfl⟩⟩, Nat.le_refl _, by decide, by decide, by omega, by simp [Value.ownBlock], by simp [Value.ownBlock]⟩

theorem zzOut (gB : Nat) (can : Bool) (w : World) : Calls Tryz.prog 10 #[.iface 42 (.pointer (some ⟨gB, 0, none⟩)), .bool can, .bool false] w (NewW (.iface 42 (.pointer (some ⟨gB, 0, none⟩))) can w) := by
  go_enter Tryz.func10, Tryz.ntmps10
  go_wp2_with (first | (go_at_call 21; refine (newW gB can _).mono ?_; rintro e2 w2 ⟨gw, bv, gs, rfl, hw, hb⟩; have HW := Lib.hid (And.intro hw hb); clear hw hb))
  go_ret
  exact ⟨gw, bv, gs, rfl, HW.out.1, HW.out.2⟩

/-- The text of a document. -/
noncomputable def docX (can : Bool) (ks : List (ByteArray × T)) : List UInt8 := clo ([123] ++ ktx can ks) 125 ++ [10]
def WritePost (t : List UInt8) (w : World) (e : Ending) (w' : World) : Prop := e = .returned (.tuple #[.string ⟨t.toArray⟩, .bool true]) ∧ Below w.heap.size w w'

theorem fr_below {base gw gs0 gs n cap : Nat} {iv : Value} {can : Bool} {bs : List UInt8} {ms0 : List Int} {m : Int} {bv0 bv : Value} {w0 w : World} (hw : Wr base gw iv can bs ms0 m bv0 gs0 n cap w0) (h : Fr gw gs0 bv0 w0 gs bv w) : Below base w0 w :=
  ⟨h.1.os, h.1.tape, h.1.output, h.1.size, fun k hk => Fr.old hw h k hk⟩

set_option maxRecDepth 100000 in
set_option maxHeartbeats 8000000 in
theorem extWrite (can : Bool) (K : Int) (t m : ByteArray) (n b h : Int) (bs : List UInt8) (ks : List (ByteArray × T)) (hnm : ∀ e ∈ ks, e.1.size ≤ 300) (hsm : ∀ e ∈ ks, SmallT e.2) (hkn : ∀ e ∈ ks, KnownT e.2) (hno : nodesL ks ≤ 300) (L : Nat) (v : Value) (w : World) (hv : VAt w L (.mk K t m n b h bs ks) v) (hL : L ≤ w.heap.size) (hT : Tabs w) :
    Calls Tryz.prog 7 #[v, .bool can, .bool false] w (WritePost (docX can ks) w) := by
  have hnodes : ∀ e ∈ ks, e.2.nodes ≤ 300 := fun e he => by have := nodesL_mem ks e he; omega
  have hlen : ∀ i, i ≤ ks.length → (ktx can (ks.take i)).length ≤ 30000 * nodesL (ks.take i) := fun i hi => ktx_len can _ (fun e he => hnm e (List.mem_of_mem_take he)) (fun e he => (vt_ok can e.2 (hsm e (List.mem_of_mem_take he)) (hkn e (List.mem_of_mem_take he))).2)
  have hvok : ∀ e ∈ ks, VOK can e.2 := fun e he => valueW can e.2 (hsm e he) (hkn e he) (hnodes e he)
  obtain ⟨TX, hTX⟩ : ∃ x, x = docX can ks := ⟨_, rfl⟩
  rw [← hTX]
  cases hv with
  | mk _ _ _ _ _ _ _ _ ba ka bn bc kn kc g o kb ko C hK2 hn hb hh ht hm2 hbn hbl2 hbc hbs hba hkn2 hkl hkc hka hks hkt hsub =>
  have hb1 := (Below.refl w.heap.size w).alloc (Nat.le_refl _) (.cells (vcells K t m n b h (.slice ba bn bc) (.slice ka kn kc)) 26)
  have hA1 := heap_alloc_new w (.cells (vcells K t m n b h (.slice ba bn bc) (.slice ka kn kc)) 26)
  have hs1 : (w.alloc (.cells (vcells K t m n b h (.slice ba bn bc) (.slice ka kn kc)) 26)).heap.size = w.heap.size + 1 := by simp
  have HV := Lib.hid (And.intro hnm (And.intro hlen (And.intro hvok (And.intro hno hTX))))
  have HC := Lib.hid (And.intro hkn2 (And.intro hkc (And.intro hka (And.intro hks (And.intro hsub hL)))))
  clear hnm hsm hkn hno hL hnodes hlen hvok hTX hK2 hn hb hh ht hm2 hbn hbl2 hbc hbs hba hkn2 hkl hkc hka hks hkt hsub
  go_enter Tryz.func7, Tryz.ntmps7
  go_upto_region 1 with fail
  generalize w.alloc (.cells (vcells K t m n b h (.slice ba bn bc) (.slice ka kn kc)) 26) = W1 at hb1 hA1 hs1 ⊢
  have HS1 := Lib.hid hs1
  clear hs1
  go_upto_region 2 with fail
  have hs1 := HS1.out
  have hb2 := (Below.refl W1.heap.size W1).alloc (Nat.le_refl _) (.cells #[.slice none 0 0, .int .i64 0, .int .i8 0] 39)
  have hA2 := heap_alloc_new W1 (.cells #[.slice none 0 0, .int .i64 0, .int .i8 0] 39)
  have hs2 : (W1.alloc (.cells #[.slice none 0 0, .int .i64 0, .int .i8 0] 39)).heap.size = W1.heap.size + 1 := by simp
  generalize W1.alloc (.cells #[.slice none 0 0, .int .i64 0, .int .i8 0] 39) = W2 at hb2 hA2 hs2 ⊢
  have H2 := Lib.hid (And.intro hb1 (And.intro hA1 (And.intro hs1 (And.intro hb2 (And.intro hA2 hs2)))))
  have HT := Lib.hid hT
  clear hb1 hA1 hs1 hb2 hA2 hs2 hT
  go_upto_region 3 with (first | (go_at_call 10; refine (zzOut W1.heap.size can _).mono ?_; rintro e3 W3 ⟨gw, bv, gs, rfl, hw3, hb3⟩))
  have hB12 : Below w.heap.size w W3 := (H2.out.1.trans (H2.out.2.2.2.1.mono H2.out.1.size)).trans (hb3.mono (Nat.le_trans H2.out.1.size H2.out.2.2.2.1.size))
  have hT3 := HT.out.bel hB12 HT.out.big
  have h13 : 13 ≤ W2.heap.size := Nat.le_trans HT.out.big (Nat.le_trans H2.out.1.size H2.out.2.2.2.1.size)
  have hdoc := hw3.wDocumentTop h13 hT3 (by simp) (by simp)
  have HD := Lib.hid hdoc
  have H3 := Lib.hid (And.intro hw3 (And.intro hb3 (And.intro hB12 (And.intro hT3 h13))))
  clear hdoc hw3 hb3 hB12 hT3 h13
  go_upto_region 4 with (first | (go_at_call 11; refine (HD.out).mono ?_; rintro e4 W4 ⟨rfl, bv4, gs4, n4, cap4, hw4, hf4⟩))
  have hb34 := fr_below H3.out.1 hf4
  have hb24 : ∀ k, k < W2.heap.size → W4.heap[k]? = W2.heap[k]? := fun k hk => (hb34.block k hk).trans (H3.out.2.1.block k hk)
  have hA4 : W4.heap[w.heap.size]? = some (.cells (vcells K t m n b h (.slice ba bn bc) (.slice ka kn kc)) 26 (0, 0)) := (hb24 _ (by have := H2.out; omega)).trans ((H2.out.2.2.2.1.block _ (by have := H2.out; omega)).trans H2.out.2.1)
  have hold : ∀ k, k < w.heap.size → W4.heap[k]? = w.heap[k]? := fun k hk => (hb24 k (by have := H2.out; omega)).trans ((H2.out.2.2.2.1.block k (by have := H2.out; omega)).trans (H2.out.1.block k hk))
  have hT4 := H3.out.2.2.2.1.wr H3.out.1 hf4 H3.out.2.2.2.2
  obtain ⟨a0, a1, a2, a3, a4, a5, a6, a7, af⟩ := cells8 hA4
  have hlenA := HV.out.2.1 ks.length (Nat.le_refl _)
  rw [List.take_length] at hlenA
  have hno := HV.out.2.2.2.1
  have hkw := kidsW can 1 (by decide) ks HV.out.1 HV.out.2.1 HV.out.2.2.1 W2.heap.size gw _ ([] ++ [123]) [] bv4 gs4 n4 cap4 W4 hw4 H3.out.2.2.2.2 hT4 (by simp only [List.length_append, List.length_cons, List.length_nil]; omega) (by simp only [List.length_nil]; omega) hno
    ka kn kc kb ko C HC.out.1 HC.out.2.1 (fun hne => ⟨(HC.out.2.2.1 hne).1, by have := (HC.out.2.2.1 hne).2; have := HC.out.2.2.2.2.2; have := H2.out; omega⟩) (fun i hi => rangeAt_kept (HC.out.2.2.2.1 i hi) (hold kb (by have := (HC.out.2.2.1 (by rintro rfl; simp at hi)).2; have := HC.out.2.2.2.2.2; omega))) (fun i hi => ((HC.out.2.2.2.2.1 i hi).kept (L' := W2.heap.size) (by have := HC.out.2.2.2.2.2; have := H2.out; omega) (fun k hk => hold k (by have := HC.out.2.2.2.2.2; omega))))
    (fun w' => Lib.IsBuffer 39 5 W1.heap.size W1.heap.size (Lib.byteCells TX) w' ∧ Below w.heap.size w w') (fun bv5 gs5 n5 cap5 W hw5 hf5 hT5 => by
      obtain ⟨pre, x, hpx⟩ := last_of (l := [] ++ [123] ++ ktx can ks) (by simp)
      have hpl : pre.length + 1 = 1 + (ktx can ks).length := by have := congrArg List.length hpx; simp only [List.length_append, List.length_cons, List.length_nil] at this; omega
      rw [hpx] at hw5
      have hb45 := fr_below hw4 hf5
      refine (hw5.wDocEnd1 (B := W1.heap.size) H3.out.2.2.2.2 hT5 (by omega) (by simp) (by have := H2.out; omega) (Nat.le_refl _) ((hb45.block _ (by have := H2.out; omega)).trans ((hb24 _ (by have := H2.out; omega)).trans H2.out.2.2.2.2.1))).mono ?_
      rintro e6 w6 ⟨rfl, hib, hbl⟩
      have e7 : closeB pre x 125 ++ [10] = TX := by
        rw [HV.out.2.2.2.2]
        unfold docX
        rw [← List.nil_append [123], hpx, clo_eq]
      rw [e7] at hib
      refine ⟨rfl, hib, ?_⟩
      have hz1 := H3.out.2.2.1
      have hz2 : Below w.heap.size W3 W := (hb34.trans hb45).mono (by have := H2.out; omega)
      exact (hz1.trans hz2).trans (hbl.mono (by have := H2.out; omega)))
  have HKW := Lib.hid hkw
  clear hkw hlenA hno hT4 hold hb24 hb34 hA4 hw4 hf4
  go_upto_if 29 with (first | (go_at_call 12; refine (HKW.out).mono ?_; rintro e5 W5 ⟨rfl, hib, hbl⟩; have HIB := Lib.hid (And.intro hib hbl); clear hib hbl))
  go_wp2_with (first | (go_at_call 13; refine (Tryz.Buffer_String W1.heap.size W1.heap.size TX _ HIB.out.1).mono ?_; rintro e6 W6 ⟨rfl, q, rfl⟩))
  go_ret2
  exact ⟨rfl, below_dn HIB.out.2 q⟩

end Go.Proofs.YtpkfdbhpmhahaaaGreatDoor

/- The plain law: the text of the joined document is the two texts, joined by a comma. -/
namespace Go.Proofs.YtpkfdbhpmhahaaaGreatDoor
open Go Go.RowKit
set_option linter.unusedSimpArgs false
set_option linter.unusedVariables false

theorem docX_eq (can : Bool) (ks : List (ByteArray × T)) (la : List UInt8) (h : ktx can ks = la ++ [44]) : docX can ks = [123] ++ la ++ [125, 10] := by
  unfold docX
  rw [h, ← List.append_assoc, clo_eq]
  unfold closeB
  rw [if_pos rfl]
  simp
/-- What the parts write: at least two bytes, a comma at the end. -/
theorem ktx_two (can : Bool) (ks : List (ByteArray × T)) (h : ∀ e ∈ ks, Ends (vt can e.2)) (hne : ks ≠ []) : ∃ la, ktx can ks = la ++ [44] ∧ la ≠ [] := by
  obtain ⟨la, hla⟩ := ktx_ends can ks h hne
  refine ⟨la, hla, ?_⟩
  rintro rfl
  cases ks with
  | nil => exact hne rfl
  | cons e r =>
    obtain ⟨nm, x⟩ := e
    obtain ⟨l, hl⟩ := h (nm, x) (by simp)
    have h2 := congrArg List.length hla
    have h3 := congrArg List.length hl
    simp only [ktx, List.length_append, List.length_cons, List.length_nil] at h2 h3
    omega
theorem joined (can : Bool) (ka kb : List (ByteArray × T)) (ha : ∀ e ∈ ka, Ends (vt can e.2)) (hb : ∀ e ∈ kb, Ends (vt can e.2)) (hna : ka ≠ []) (hnb : kb ≠ []) :
    3 < (docX can ka).length ∧ 3 < (docX can kb).length ∧ docX can (ka ++ kb) = (docX can ka).take ((docX can ka).length - 2) ++ [44] ++ (docX can kb).drop 1 := by
  obtain ⟨la, hla, h1⟩ := ktx_two can ka ha hna
  obtain ⟨lb, hlb, h2⟩ := ktx_two can kb hb hnb
  have p1 := List.length_pos_iff.2 h1
  have p2 := List.length_pos_iff.2 h2
  have hab : ktx can (ka ++ kb) = (la ++ [44] ++ lb) ++ [44] := by rw [ktx_append, hla, hlb]; simp
  rw [docX_eq can ka la hla, docX_eq can kb lb hlb, docX_eq can (ka ++ kb) _ hab]
  refine ⟨by simp; omega, by simp; omega, ?_⟩
  have e : ([123] ++ la ++ [125, 10] : List UInt8).length - 2 = ([123] ++ la : List UInt8).length := by simp
  rw [e, List.take_left]
  simp
/-- The same of the texts as byte arrays. -/
theorem joinedB (can : Bool) (ka kb : List (ByteArray × T)) (ha : ∀ e ∈ ka, Ends (vt can e.2)) (hb : ∀ e ∈ kb, Ends (vt can e.2)) (hna : ka ≠ []) (hnb : kb ≠ []) (s t u : ByteArray) (hs : s = ⟨(docX can ka).toArray⟩) (ht : t = ⟨(docX can kb).toArray⟩) (hu : u = ⟨(docX can (ka ++ kb)).toArray⟩) :
    3 < s.size ∧ 3 < t.size ∧ u.toList = (docX can ka).take ((docX can ka).length - 2) ++ [44] ++ (docX can kb).drop 1 := by
  obtain ⟨h1, h2, h3⟩ := joined can ka kb ha hb hna hnb
  subst hs ht hu
  refine ⟨h1, h2, ?_⟩
  rw [← h3]
  simp

end Go.Proofs.YtpkfdbhpmhahaaaGreatDoor
