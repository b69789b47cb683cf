/- A value is written: one text. -/
import Derived.Test.YtpkfdbhpmhahaaaGreatDoorGd
namespace Go.Proofs.YtpkfdbhpmhahaaaGreatDoor
open Go Go.RowKit
set_option linter.unusedSimpArgs false
set_option linter.unusedVariables false

theorem WF.after {base gw : Nat} {iv : Value} {can : Bool} {bs : List UInt8} {ms1 : List Int} {m1 : Int} {gs gs1 : Nat} {bv bv1 : Value} {w W1 W : World} (hf : Fr gw gs bv w gs1 bv1 W1) (h : WF base gw iv can bs ms1 m1 gs1 bv1 W1 W) : WF base gw iv can bs ms1 m1 gs bv w W := hf.to h.wrto

set_option maxRecDepth 100000 in
set_option maxHeartbeats 8000000 in
theorem valueW (can : Bool) (x : T) : SmallT x → KnownT x → x.nodes ≤ 300 → VOK can x := by
  induction x using T.ind with
  | h K t m n b h bs ks ih =>
  intro hs hk hno base gw iv bs0 ms1 m1 mm bv gs ns cap w hw hm hB hT hbl hd v hv
  obtain ⟨VT, hVT⟩ : ∃ x, x = vt can (.mk K t m n b h bs ks) := ⟨_, rfl⟩
  rw [← hVT]
  have hnk : nodesL ks < 300 := by simp only [T.nodes] at hno; omega
  have hnd : (T.mk K t m n b h bs ks).nodes = 1 + nodesL ks := by simp only [T.nodes]
  rw [hnd] at hbl hd
  cases hs with
  | mk hsn hnm hsk =>
  cases hk with
  | mk hK hkk =>
  have hnodes : ∀ e ∈ ks, e.2.nodes ≤ 300 := fun e he => by have := nodesL_mem ks e he; omega
  cases hv with
  | mk _ _ _ _ _ _ _ _ ba ka bn bc kn kc g o kb ko C hK2 hn hb hh ht hm2 hbn hbl2 hbc hbs hba hkn hkl hkc hka hks hkt hsub =>
  have hb1 := (Below.refl w.heap.size w).alloc (Nat.le_refl _) (.cells (vcells K t m n b h (.slice ba bn bc) (.slice ka kn kc)) 26)
  have hA1 := heap_alloc_new w (.cells (vcells K t m n b h (.slice ba bn bc) (.slice ka kn kc)) 26)
  have hsz1 : w.heap.size < (w.alloc (.cells (vcells K t m n b h (.slice ba bn bc) (.slice ka kn kc)) 26)).heap.size := by simp
  have HV := Lib.hid (And.intro hsn (And.intro hnm (And.intro hsk (And.intro hkk (And.intro hnodes (And.intro hVT ih))))))
  have HC := Lib.hid (And.intro hbn (And.intro hbc (And.intro hbs (And.intro hkn (And.intro hkc (And.intro hka (And.intro hks hsub)))))))
  have HS := Lib.hid (And.intro hbl (And.intro hd hnk))
  have HK := Lib.hid hK
  clear hsn hnm hsk hkk hnodes hVT ih hbn hbc hbs hkn hkc hka hks hsub hkt hkl hba hbl2 hno hnd hbl hd hnk hK hK2 hn hb hh ht hm2
  go_enter Tryz.func25, Tryz.ntmps25
  go_upto_region 1 with fail
  generalize w.alloc (.cells (vcells K t m n b h (.slice ba bn bc) (.slice ka kn kc)) 26) = W1 at hb1 hA1 hsz1 ⊢
  obtain ⟨a0, a1, a2, a3, a4, a5, a6, a7, af⟩ := cells8 hA1
  have hw1 := hw.bel hb1
  have hf1 := (Fr.refl gw gs bv w).bel hb1
  have hT1 := hT.bel hb1 hT.big
  have hlt := hw.lt
  have H1 := Lib.hid (And.intro hw1 (And.intro hf1 (And.intro hT1 (And.intro hb1 (And.intro hA1 hsz1)))))
  have HW := Lib.hid (And.intro hw (And.intro hT hlt))
  have HM := Lib.hid hm
  clear hw1 hf1 hT1 hb1 hA1 hsz1 hw hT hlt hm
  by_cases h3 : K = 3
  · subst h3
    have hvt : VT = clo ([123] ++ ktx can ks) 125 ++ [44] := by
      rw [HV.out.2.2.2.2.2.1]
      unfold vt
      rw [if_pos rfl]
    have hdoc := H1.out.1.wDocument HM.out hB H1.out.2.2.1 (by have := HS.out; omega) (by have := HS.out; simp only [List.length_append, List.length_cons, List.length_nil]; omega)
    have HDOC := Lib.hid hdoc
    have HVT := Lib.hid hvt
    clear hdoc hvt
    go_upto_region 4 with (first | (go_at_call 11; refine (HDOC.out).mono ?_; rintro e2 w2 ⟨rfl, bv2, gs2, n2, cap2, hw2, hf2⟩))
    have hA2 : w2.heap[w.heap.size]? = some (.cells (vcells 3 t m n b h (.slice ba bn bc) (.slice ka kn kc)) 26 (0, 0)) := (hf2.1.block w.heap.size H1.out.2.2.2.2.2 (by have := HW.out.2.2; omega) (by have := HW.out.2.2; omega) (fun e => by have := (HW.out.2.2.2.2.1 _ e).2; omega)).trans H1.out.2.2.2.2.1
    have hf3 : Fr gw gs bv w gs2 bv2 w2 := by
      obtain ⟨q1, q2, q3⟩ := hf2
      exact ⟨H1.out.2.1.1.trans q1 H1.out.2.1.2.1 H1.out.2.1.2.2, by have := H1.out.2.2.2.1.size; omega, fun k hk => (q3 k hk).imp id (fun hle => Nat.le_trans H1.out.2.2.2.1.size hle)⟩
    have hT2 := HW.out.2.1.wr HW.out.1 hf3 hB
    have hold2 := fun k hk => Fr.old HW.out.1 hf3 k hk
    clear a0 a1 a2 a3 a4 a5 a6 a7 af
    obtain ⟨a0, a1, a2, a3, a4, a5, a6, a7, af⟩ := cells8 hA2
    have hlen : ∀ i, i ≤ ks.length → (ktx can (ks.take i)).length ≤ 30000 * nodesL (ks.take i) := fun i hi => ktx_len can _ (fun e he => HV.out.2.1 e (List.mem_of_mem_take he)) (fun e he => (vt_ok can e.2 (HV.out.2.2.1 e (List.mem_of_mem_take he)) (HV.out.2.2.2.1 (by decide) e (List.mem_of_mem_take he))).2)
    have hlenA := hlen ks.length (Nat.le_refl _)
    rw [List.take_length] at hlenA
    have hkw := kidsW can 2 (by decide) ks HV.out.2.1 hlen (fun e he => HV.out.2.2.2.2.2.2 e he (HV.out.2.2.1 e he) (HV.out.2.2.2.1 (by decide) e he) (HV.out.2.2.2.2.1 e he)) base gw iv (bs0 ++ [123]) (ms1 ++ [m1] ++ [mm]) bv2 gs2 n2 cap2 w2 hw2 hB hT2 (by have := HS.out; simp only [List.length_append, List.length_cons, List.length_nil] at *; omega) (by have := HS.out; simp only [List.length_append, List.length_cons, List.length_nil]; omega) (by have := HS.out; omega)
      ka kn kc kb ko C HC.out.2.2.2.1 HC.out.2.2.2.2.1 HC.out.2.2.2.2.2.1 (fun i hi => rangeAt_kept (HC.out.2.2.2.2.2.2.1 i hi) (hold2 kb (HC.out.2.2.2.2.2.1 (by rintro rfl; simp at hi)).2)) (fun i hi => (HC.out.2.2.2.2.2.2.2 i hi).kept (Nat.le_refl _) hold2)
      (WF base gw iv can (bs0 ++ VT) ms1 m1 gs bv w) (fun bv3 gs3 n3 cap3 W hw3 hf4 hT3 => by
        obtain ⟨pre, x, hpx⟩ := last_of (l := [123] ++ ktx can ks) (by simp)
        have hpl : pre.length + 1 = 1 + (ktx can ks).length := by have := congrArg List.length hpx; simp only [List.length_append, List.length_cons, List.length_nil] at this; omega
        have hw4 : Wr base gw iv can ((bs0 ++ pre) ++ [x]) (ms1 ++ [m1] ++ [mm]) 2 bv3 gs3 n3 cap3 W := by
          rw [List.append_assoc, ← hpx, ← List.append_assoc]; exact hw3
        refine (hw4.wDocEnd2 hB hT3 (by have := HS.out; rw [List.length_append]; omega) (by have := HS.out; simp only [List.length_append, List.length_cons, List.length_nil]; omega) (ms1 := ms1) (m1 := m1) (m2 := mm) (by simp)).mono ?_
        rintro e5 w5 ⟨rfl, hwf⟩
        refine ⟨rfl, ?_⟩
        have hfull : Fr gw gs bv w gs3 bv3 W := by
          obtain ⟨q1, q2, q3⟩ := hf4
          have hz := hf3.1.size
          exact ⟨hf3.1.trans q1 hf3.2.1 hf3.2.2, by have := hf3.2.1; omega, fun k hk => by
            rcases q3 k hk with e | e
            · exact hf3.2.2 k e
            · exact .inr (by omega)⟩
        have hwf2 := WF.after hfull hwf
        have e6 : closeB (bs0 ++ pre) x 125 ++ [44] = bs0 ++ VT := by
          rw [HVT.out, hpx, clo_eq, closeB_app]
          simp only [List.append_assoc]
        rw [e6] at hwf2
        exact hwf2)
    have HKW := Lib.hid hkw
    clear hkw hlen hlenA hold2 hT2 hf3 hA2 hw2 hf2
    go_wp2_with (first | (go_at_call 12; refine (HKW.out).mono ?_; rintro e3 w3 ⟨rfl, hr⟩; have HR := Lib.hid hr; clear hr))
    go_ret
    exact ⟨rfl, HR.out⟩
  by_cases h4 : K = 4
  · subst h4
    have hvt : VT = clo ([91] ++ atx can ks) 93 ++ [44] := by
      rw [HV.out.2.2.2.2.2.1]
      unfold vt
      rw [if_neg (by decide), if_pos rfl]
    have hdoc := H1.out.1.wArray HM.out hB H1.out.2.2.1 (by have := HS.out; omega) (by have := HS.out; simp only [List.length_append, List.length_cons, List.length_nil]; omega)
    have HDOC := Lib.hid hdoc
    have HVT := Lib.hid hvt
    clear hdoc hvt h3
    go_upto_region 9 with (first | (go_at_call 40; refine (HDOC.out).mono ?_; rintro e2 w2 ⟨rfl, bv2, gs2, n2, cap2, hw2, hf2⟩))
    have hA2 : w2.heap[w.heap.size]? = some (.cells (vcells 4 t m n b h (.slice ba bn bc) (.slice ka kn kc)) 26 (0, 0)) := (hf2.1.block w.heap.size H1.out.2.2.2.2.2 (by have := HW.out.2.2; omega) (by have := HW.out.2.2; omega) (fun e => by have := (HW.out.2.2.2.2.1 _ e).2; omega)).trans H1.out.2.2.2.2.1
    have hf3 : Fr gw gs bv w gs2 bv2 w2 := by
      obtain ⟨q1, q2, q3⟩ := hf2
      exact ⟨H1.out.2.1.1.trans q1 H1.out.2.1.2.1 H1.out.2.1.2.2, by have := H1.out.2.2.2.1.size; omega, fun k hk => (q3 k hk).imp id (fun hle => Nat.le_trans H1.out.2.2.2.1.size hle)⟩
    clear a0 a1 a2 a3 a4 a5 a6 a7 af
    obtain ⟨a0, a1, a2, a3, a4, a5, a6, a7, af⟩ := cells8 hA2
    have hlen : ∀ i, i ≤ ks.length → (atx can (ks.take i)).length ≤ 30000 * nodesL (ks.take i) := fun i hi => atx_len can _ (fun e he => (vt_ok can e.2 (HV.out.2.2.1 e (List.mem_of_mem_take he)) (HV.out.2.2.2.1 (by decide) e (List.mem_of_mem_take he))).2)
    have HLN := Lib.hid hlen
    have HF2 := Lib.hid (And.intro hw2 hf3)
    have hkb : kn ≤ 300 := by have h1 := HS.out; have h2 := nodesL_length ks; have h3 := HC.out.2.2.2.1; omega
    have hkc := HC.out.2.2.2.2.1
    clear hlen hw2 hf2 hf3 hA2
    go_upto_block 1 with fail
    go_wp2
    go_loopg [46] kn (fun m v wx => Aside (∃ i : Nat, m = kn - i ∧ i ≤ kn ∧ v = .int .i64 (i : Nat) ∧ WF base gw iv can (bs0 ++ [91] ++ atx can (ks.take i)) (ms1 ++ [m1] ++ [mm]) 3 gs bv w wx))
    case atStart => exact ⟨0, rfl, by omega, rfl, by rw [List.take_zero, atx, List.append_nil]; exact ⟨_, _, _, _, HF2.out.1, HF2.out.2⟩⟩
    case round =>
      obtain ⟨i, rfl, hi, rfl, bv3, gs3, n3, cap3, hw3, hf3⟩ := hrel.out
      clear hrel
      have hT3 := HW.out.2.1.wr HW.out.1 hf3 hB
      have hold3 := fun k hk => Fr.old HW.out.1 hf3 k hk
      have H3 := Lib.hid (And.intro hw3 (And.intro hf3 (And.intro hT3 hold3)))
      clear hw3 hf3 hT3 hold3 a0 a1 a2 a3 a4 a5 a6 a7 af
      by_cases hlt : i < kn
      · have hik : i < ks.length := by have := HC.out.2.2.2.1; omega
        have hkne : ks ≠ [] := by rintro rfl; simp at hik
        obtain ⟨hka, hkb2⟩ := HC.out.2.2.2.2.2.1 hkne
        have hra := HC.out.2.2.2.2.2.2.1 i hik
        have hva := HC.out.2.2.2.2.2.2.2 i hik
        obtain ⟨nm, hn0⟩ : ∃ nm, nm = ks[i].1 := ⟨_, rfl⟩
        obtain ⟨tr, ht0⟩ : ∃ tr, tr = ks[i].2 := ⟨_, rfl⟩
        obtain ⟨cv, hc0⟩ : ∃ cv, cv = C i := ⟨_, rfl⟩
        rw [← hn0, ← hc0] at hra
        rw [← ht0, ← hc0] at hva
        subst hka
        have hmem := List.getElem_mem hik
        have hvok : VOK can tr := by rw [ht0]; exact HV.out.2.2.2.2.2.2 _ hmem (HV.out.2.2.1 _ hmem) (HV.out.2.2.2.1 (by decide) _ hmem) (HV.out.2.2.2.2.1 _ hmem)
        have htk : atx can (ks.take (i + 1)) = atx can (ks.take i) ++ vt can tr := by
          rw [List.take_succ_eq_append_getElem hik, atx_append]
          congr 1
          rw [show ks[i] = (nm, tr) by rw [hn0, ht0]]
          simp [atx]
        have hno2 : nodesL (ks.take i) + tr.nodes ≤ nodesL ks := by rw [ht0]; exact nodes_take ks i hik
        have hle := HLN.out i (Nat.le_of_lt hik)
        have HI := Lib.hid (And.intro hvok (And.intro htk (And.intro hno2 hle)))
        obtain ⟨hc8, hc1⟩ := hva.size
        have HVA := Lib.hid hva
        have HC8 := Lib.hid hc8
        have HC1 := Lib.hid hc1
        have HRA := Lib.hid (rangeAt_kept hra (H3.out.2.2.2 kb hkb2))
        clear hn0 ht0 hc0 hra hva hc8 hc1 hkne hmem hvok htk hno2 hle
        go_upto_region 14 with (first | ((with_reducible refine wpList_at (some 49) ?_); refine wpList_load_mid rfl 33 (.tmp 48) rfl kb (ko + i * 9) rfl (.string nm :: cv.toList) _ HRA.out Tryz.underlying33 rfl (kid_info HC8.out) ?_) | ((with_reducible refine wpList_at none ?_); refine wpList_store_new rfl 33 (.tmp 10) (.tmp 49) rfl rfl _ _ (Value.string nm :: cv.toList).toArray _ rfl rfl (kid_info2 HC8.out) (kid_size HC8.out) (kid_one HC1.out) ?_))
        have hA6 := heap_alloc_new wr (.cells (Value.string nm :: cv.toList).toArray 33)
        have hb6 := (Below.refl wr.heap.size wr).alloc (Nat.le_refl _) (.cells (Value.string nm :: cv.toList).toArray 33)
        have hsz6 : wr.heap.size < (wr.alloc (.cells (Value.string nm :: cv.toList).toArray 33)).heap.size := by simp
        generalize wr.alloc (.cells (Value.string nm :: cv.toList).toArray 33) = W6 at hA6 hb6 hsz6 ⊢
        have hkey := (H3.out.1.bel hb6).wArrayElement hB (H3.out.2.2.1.bel hb6 H3.out.2.2.1.big) (by have h1 := HS.out; have h2 := HI.out; simp only [List.length_append, List.length_cons, List.length_nil]; omega) (by have := HS.out; simp only [List.length_append, List.length_cons, List.length_nil]; omega)
        have HKY := Lib.hid hkey
        have H6 := Lib.hid (And.intro hA6 (And.intro hb6 hsz6))
        clear hkey hA6 hb6 hsz6
        go_upto_region 15 with (first | (go_at_call 41; refine (HKY.out).mono ?_; rintro e2 w2 ⟨rfl, bv2, gs2, n2, cap2, hw2, hf2⟩))
        have hlt1 := H3.out.1.lt
        have hA2 : w2.heap[wr.heap.size]? = some (.cells (Value.string nm :: cv.toList).toArray 33 (0, 0)) := (hf2.1.block wr.heap.size H6.out.2.2 (by omega) (by omega) (fun e => by have := (hlt1.2.2.1 _ e).2; omega)).trans H6.out.1
        obtain ⟨bv4, gs4, n4, cap4, hw4, hf4⟩ := (H3.out.2.1.bel H6.out.2.1).to (Fr.wrto hw2 hf2)
        clear hw2 hf2 bv2 gs2 n2 cap2
        have hT4 := HW.out.2.1.wr HW.out.1 hf4 hB
        have hold4 := fun k hk => Fr.old HW.out.1 hf4 k hk
        have hva4 : VAt w2 base tr (.agg cv.toList.toArray) := by
          rw [Array.toArray_toList]
          exact HVA.out.kept (Nat.le_refl _) hold4
        have cr : w2.rangeAt wr.heap.size 1 cv.toList := kid_range hA2
        have hi26 : (Tryz.prog.info? 26).map (·.size) = some cv.toList.length := by rw [info26]; simp [HC8.out]
        have hval := HI.out.1 base gw iv _ (ms1 ++ [m1] ++ [mm]) 3 4 bv4 gs4 n4 cap4 w2 hw4 (.inl rfl) hB hT4 (by have h1 := HS.out; have h2 := HI.out; simp only [List.length_append, List.length_cons, List.length_nil]; omega) (by have := HS.out; have := HI.out; simp only [List.length_append, List.length_cons, List.length_nil]; omega) _ hva4
        have HV4 := Lib.hid hval
        have H4 := Lib.hid (And.intro hf4 (And.intro cr hi26))
        clear hval hf4 cr hi26 hva4 hold4 hT4 hw4 hA2 hlt1
        go_wp2_with (first | ((with_reducible refine wpList_at (some 60) ?_); refine wpList_load_mid rfl 26 (.tmp 59) rfl wr.heap.size 1 rfl cv.toList _ H4.out.2.1 Tryz.underlying26 rfl H4.out.2.2 ?_) | (go_at_call 25; refine (HV4.out).mono ?_; rintro e4 w4 ⟨rfl, hwf⟩; have HWF := Lib.hid hwf; clear hwf))
        go_roundg (kn - (i + 1))
        case measure => omega
        case rel =>
          refine ⟨i + 1, rfl, by omega, rfl, ?_⟩
          have h1 := WF.after H4.out.1 HWF.out
          rw [HI.out.2.1]
          simp only [List.append_assoc] at h1 ⊢
          exact h1
      · have hik : i = ks.length := by have := HC.out.2.2.2.1; omega
        have htk : ks.take i = ks := by rw [hik]; exact List.take_length
        have hw3 := H3.out.1
        have hlenA := HLN.out ks.length (Nat.le_refl _)
        rw [List.take_length] at hlenA
        rw [htk] at hw3
        obtain ⟨pre, x, hpx⟩ := last_of (l := [91] ++ atx can ks) (by simp)
        have hpl : pre.length + 1 = 1 + (atx can ks).length := by have := congrArg List.length hpx; simp only [List.length_append, List.length_cons, List.length_nil] at this; omega
        have hw4 : Wr base gw iv can ((bs0 ++ pre) ++ [x]) (ms1 ++ [m1] ++ [mm]) 3 bv3 gs3 n3 cap3 wr := by
          rw [List.append_assoc, ← hpx, ← List.append_assoc]; exact hw3
        have hend := (hw4.wArrayEnd hB H3.out.2.2.1 (by have := HS.out; rw [List.length_append]; omega) (by have := HS.out; simp only [List.length_append, List.length_cons, List.length_nil]; omega) (ms1 := ms1) (m1 := m1) (m2 := mm) (by simp))
        have e6 : closeB (bs0 ++ pre) x 93 ++ [44] = bs0 ++ VT := by
          rw [HVT.out, hpx, clo_eq, closeB_app]
          simp only [List.append_assoc]
        rw [e6] at hend
        have HEND := Lib.hid hend
        clear hend hw3 hw4 hpx hpl hlenA htk hik e6
        go_wp2_with (first | (go_at_call 42; refine (HEND.out).mono ?_; rintro e2 w2 ⟨rfl, hr⟩; have HRR := Lib.hid hr; clear hr))
        go_ret
        exact ⟨rfl, WF.after H3.out.2.1 HRR.out⟩
  by_cases h15 : K = 15
  · subst h15
    have hvt : VT = clo (cwsH t ++ ktx can ks) 125 ++ [125] ++ [44] := by
      rw [HV.out.2.2.2.2.2.1]
      unfold vt
      rw [if_neg (by decide), if_neg (by decide), if_pos rfl]
    have hel := escT_length t HV.out.1.ht
    have hdoc := H1.out.1.wCodeWithScope HM.out hB H1.out.2.2.1 (by have := HS.out; omega) (by have := HS.out; simp only [List.length_append, List.length_cons, List.length_nil]; omega) t (escT t) (by omega) (escC t (by have := HV.out.1.ht; omega)) (cwsH t) rfl (by have := cwsH_len t HV.out.1.ht; omega) (by unfold cwsH; simp)
    have HDOC := Lib.hid hdoc
    have HVT := Lib.hid hvt
    clear hdoc hvt hel h3 h4
    go_upto_region 24 with (first | (go_at_call 43; refine (HDOC.out).mono ?_; rintro e2 w2 ⟨rfl, bv2, gs2, n2, cap2, hw2, hf2⟩))
    have hA2 : w2.heap[w.heap.size]? = some (.cells (vcells 15 t m n b h (.slice ba bn bc) (.slice ka kn kc)) 26 (0, 0)) := (hf2.1.block w.heap.size H1.out.2.2.2.2.2 (by have := HW.out.2.2; omega) (by have := HW.out.2.2; omega) (fun e => by have := (HW.out.2.2.2.2.1 _ e).2; omega)).trans H1.out.2.2.2.2.1
    have hf3 : Fr gw gs bv w gs2 bv2 w2 := by
      obtain ⟨q1, q2, q3⟩ := hf2
      exact ⟨H1.out.2.1.1.trans q1 H1.out.2.1.2.1 H1.out.2.1.2.2, by have := H1.out.2.2.2.1.size; omega, fun k hk => (q3 k hk).imp id (fun hle => Nat.le_trans H1.out.2.2.2.1.size hle)⟩
    have hT2 := HW.out.2.1.wr HW.out.1 hf3 hB
    have hold2 := fun k hk => Fr.old HW.out.1 hf3 k hk
    clear a0 a1 a2 a3 a4 a5 a6 a7 af
    obtain ⟨a0, a1, a2, a3, a4, a5, a6, a7, af⟩ := cells8 hA2
    have hlen : ∀ i, i ≤ ks.length → (ktx can (ks.take i)).length ≤ 30000 * nodesL (ks.take i) := fun i hi => ktx_len can _ (fun e he => HV.out.2.1 e (List.mem_of_mem_take he)) (fun e he => (vt_ok can e.2 (HV.out.2.2.1 e (List.mem_of_mem_take he)) (HV.out.2.2.2.1 (by decide) e (List.mem_of_mem_take he))).2)
    have hlenA := hlen ks.length (Nat.le_refl _)
    rw [List.take_length] at hlenA
    have hkw := kidsW can 6 (by decide) ks HV.out.2.1 hlen (fun e he => HV.out.2.2.2.2.2.2 e he (HV.out.2.2.1 e he) (HV.out.2.2.2.1 (by decide) e he) (HV.out.2.2.2.2.1 e he)) base gw iv (bs0 ++ cwsH t) (ms1 ++ [m1] ++ [mm]) bv2 gs2 n2 cap2 w2 hw2 hB hT2 (by have hcw := cwsH_len t HV.out.1.ht; have := HS.out; simp only [List.length_append, List.length_cons, List.length_nil] at *; omega) (by have := HS.out; simp only [List.length_append, List.length_cons, List.length_nil]; omega) (by have := HS.out; omega)
      ka kn kc kb ko C HC.out.2.2.2.1 HC.out.2.2.2.2.1 HC.out.2.2.2.2.2.1 (fun i hi => rangeAt_kept (HC.out.2.2.2.2.2.2.1 i hi) (hold2 kb (HC.out.2.2.2.2.2.1 (by rintro rfl; simp at hi)).2)) (fun i hi => (HC.out.2.2.2.2.2.2.2 i hi).kept (Nat.le_refl _) hold2)
      (WF base gw iv can (bs0 ++ VT) ms1 m1 gs bv w) (fun bv3 gs3 n3 cap3 W hw3 hf4 hT3 => by
        obtain ⟨pre, x, hpx⟩ := last_of (l := cwsH t ++ ktx can ks) (by unfold cwsH; simp)
        have hpl : pre.length + 1 = (cwsH t).length + (ktx can ks).length := by have := congrArg List.length hpx; simp only [List.length_append, List.length_cons, List.length_nil] at this; omega
        have hw4 : Wr base gw iv can ((bs0 ++ pre) ++ [x]) (ms1 ++ [m1] ++ [mm]) 6 bv3 gs3 n3 cap3 W := by
          rw [List.append_assoc, ← hpx, ← List.append_assoc]; exact hw3
        refine (hw4.wDocEnd6 hB hT3 (by have hcw := cwsH_len t HV.out.1.ht; have := HS.out; rw [List.length_append]; omega) (by have := HS.out; simp only [List.length_append, List.length_cons, List.length_nil]; omega) (ms1 := ms1) (m1 := m1) (m2 := mm) (by simp)).mono ?_
        rintro e5 w5 ⟨rfl, hwf⟩
        refine ⟨rfl, ?_⟩
        have hfull : Fr gw gs bv w gs3 bv3 W := by
          obtain ⟨q1, q2, q3⟩ := hf4
          have hz := hf3.1.size
          exact ⟨hf3.1.trans q1 hf3.2.1 hf3.2.2, by have := hf3.2.1; omega, fun k hk => by
            rcases q3 k hk with e | e
            · exact hf3.2.2 k e
            · exact .inr (by omega)⟩
        have hwf2 := WF.after hfull hwf
        have e6 : closeB (bs0 ++ pre) x 125 ++ [125] ++ [44] = bs0 ++ VT := by
          rw [HVT.out, hpx, clo_eq, closeB_app]
          simp only [List.append_assoc]
        rw [e6] at hwf2
        exact hwf2)
    have HKW := Lib.hid hkw
    clear hkw hlen hlenA hold2 hT2 hf3 hA2 hw2 hf2
    go_wp2_with (first | (go_at_call 12; refine (HKW.out).mono ?_; rintro e3 w3 ⟨rfl, hr⟩; have HR := Lib.hid hr; clear hr))
    go_ret
    exact ⟨rfl, HR.out⟩
  have e3 : (K == 3) = false := beq_eq_false_iff_ne.2 h3
  have e4 : (K == 4) = false := beq_eq_false_iff_ne.2 h4
  have e15 : (K == 15) = false := beq_eq_false_iff_ne.2 h15
  have hvt : VT = scT can K t m n b h bs := by
    rw [HV.out.2.2.2.2.2.1]
    unfold vt
    rw [if_neg h3, if_neg h4, if_neg h15]
  have hsc := (scT_spec (scalarC can K t m n b h bs HK.out h3 h4 h15 HV.out.1)).2.2
  have hcall := hsc base gw iv bs0 ms1 m1 mm bv gs ns cap W1 H1.out.1 HM.out hB H1.out.2.2.1 (by have := HS.out; omega) ba ka bn bc kn kc HC.out.1 HC.out.2.1 (fun hne => by
    obtain ⟨q1, q2, q3⟩ := HC.out.2.2.1 hne
    exact ⟨g, o, q1, q2, rangeAt_kept q3 (H1.out.2.2.2.1.block g (Nat.lt_of_lt_of_le q2 HW.out.2.2.2.2.2))⟩)
  rw [← hvt] at hcall
  have HCL := Lib.hid hcall
  clear hcall hsc hvt h3 h4 h15
  go_wp2_with (first | ((with_reducible refine wpList_at (some 89) ?_); refine wpList_load_row rfl 26 (.tmp 3) rfl _ rfl 26 (vcells K t m n b h (.slice ba bn bc) (.slice ka kn kc)) (0, 0) _ H1.out.2.2.2.2.1 Tryz.underlying26 rfl info26 ?_) | (go_at_call 44; refine (HCL.out).mono ?_; rintro e2 w2 ⟨rfl, hr⟩; have HR := Lib.hid hr; clear hr))
  go_ret
  exact ⟨rfl, WF.pre HR.out H1.out.2.2.2.1⟩

end Go.Proofs.YtpkfdbhpmhahaaaGreatDoor
