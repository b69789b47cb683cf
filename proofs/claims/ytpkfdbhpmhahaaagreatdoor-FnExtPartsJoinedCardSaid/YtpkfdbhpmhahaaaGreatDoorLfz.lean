/- Leaves of the writer: base64's text, whole. -/
import Derived.Test.YtpkfdbhpmhahaaaGreatDoorLfy
import Derived.Test.YtpkfdbhpmhahaaaGreatDoorGc
import Derived.Test.YtpkfdbhpmhahaaaGreatDoorGb
namespace Go.Proofs.YtpkfdbhpmhahaaaGreatDoor
open Go Go.RowKit Go.Lib
set_option linter.unusedSimpArgs false
set_option linter.unusedVariables false

theorem encLen (g n N : Nat) (w : World) (he : EncAt w g) (hn : n ≤ 1000000) (hN : N = (n + 2) / 3 * 4) :
    Calls Tryz.prog 107 #[.pointer (some ⟨g, 0, none⟩), .int .i64 (n : Int)] w (fun e w' => e = .returned (.int .i64 (N : Int)) ∧ w' = w) := by
  have ht := he.top
  have HN : Hid ((((n : Int) + 2) / 3 * 4) = (N : Int)) := Lib.hid (by omega)
  clear he hN
  go_enter Tryz.func107, Tryz.ntmps107
  go_wp2
  go_ret
  refine ⟨?_, rfl⟩
  show Ending.returned (.int .i64 (((n : Int) + 2) / 3 * 4)) = _
  rw [HN.out]

theorem lt_of_cell {w : World} {a : Addr} {v : Value} (h : w.cell? a = some v) : a.block < w.heap.size := by
  rcases Nat.lt_or_ge a.block w.heap.size with h1 | h1
  · exact h1
  · simp [World.cell?, Array.getElem?_eq_none h1] at h
theorem BytesAt.kept {w w' : World} {L : List UInt8} {ba : Option Addr} (h : BytesAt w L ba) (hk : ∀ k, k < w.heap.size → w'.heap[k]? = w.heap[k]?) : BytesAt w' L ba := fun hne => by
  obtain ⟨gs, o, e, hr⟩ := h hne
  refine ⟨gs, o, e, fun j v hv => ?_⟩
  have hc := hr j v hv
  exact (World.cell?_of_block (a := ⟨gs, o + j, none⟩) (hk gs (lt_of_cell hc))).trans hc

set_option maxRecDepth 100000 in
theorem encodeAny (L : List UInt8) (hL : L.length ≤ 1000000) (g gd cs N : Nat) (ba : Option Addr) (w : World) (hN : N = (b64 L).length) (hg : g < gd) (hBl : ∀ gs o, ba = some ⟨gs, o, none⟩ → L ≠ [] → gs < gd) (he : EncAt w g) (hB : BytesAt w L ba) (hrow : ∃ D : Array Value, w.heap[gd]? = some (.cells D 5 (0, 0)) ∧ D.size = N ∧ (∀ v ∈ D.toList, ∃ k : Int, v = .int .u8 k)) (hcs : L.length ≤ cs) :
    Calls Tryz.prog 108 #[.pointer (some ⟨g, 0, none⟩), .slice (some ⟨gd, 0, none⟩) N N, .slice ba L.length cs] w (BPost L gd N w) := by
  by_cases hne : L = []
  · subst hne
    have HR := Lib.hid hrow
    have h0 : N = 0 := hN
    clear hrow he hB hBl hN
    go_enter Tryz.func108, Tryz.ntmps108
    go_wp2
    refine bodyPost_ret (results_none rfl _ _ _) rfl ?_
    obtain ⟨D, h1, h2, _⟩ := HR.out
    exact ⟨rfl, ⟨D, h1, h2, by simp [b64, Lib.byteCells]⟩, Below.refl _ _⟩
  · obtain ⟨gs, o, rfl, hr⟩ := hB hne
    subst hN
    exact encode L hL g gd gs o cs w hg (hBl gs o rfl hne) he hr hrow hcs hne

set_option maxRecDepth 100000 in
theorem stdEnc (w : World) : Calls Tryz.prog 94 #[] w (NE w) := by
  go_enter Tryz.func94, Tryz.ntmps94
  go_wp2_with (first | (go_at_call 106; refine (newEnc _).mono ?_; rintro e w' ⟨g, rfl, h1, h2, h3, h4⟩; have HX := Lib.hid (And.intro h1 (And.intro h2 (And.intro h3 h4))); clear h1 h2 h3 h4))
  go_ret
  exact ⟨g, rfl, HX.out⟩

theorem b64_back {L : List UInt8} {N gd : Nat} {T : ByteArray} {w2 : World} (hN : N = (b64 L).length) (hT : T = ⟨(b64 L).toArray⟩) (hNb : N ≤ 2000000) (hD : ∃ D : Array Value, w2.heap[gd]? = some (.cells D 5 (0, 0)) ∧ D.size = N ∧ D.toList.take (b64 L).length = byteCells (b64 L)) :
    (convert 23 9 (.slice (some ⟨gd, 0, none⟩) N N)).run Tryz.prog w2 = .ok (.string T) w2 := by
  obtain ⟨D, hD1, hD2, hD3⟩ := hD
  have hh := conv_own (W := w2) (base := 0) (v := .slice (some ⟨gd, 0, none⟩) (b64 L).length N) (acc := b64 L) ⟨by rw [byteCells_length, Nat.mul_one], .inr ⟨gd, N, D, rfl, Nat.zero_le _, hD1, by rw [← hN]; exact Nat.le_refl _, by unfold maxLen; omega, by rw [hD2, Nat.mul_one], by rw [Nat.mul_one]; exact hD3⟩⟩
  rw [hT]
  rw [← hN] at hh
  exact hh

set_option maxRecDepth 100000 in
set_option maxHeartbeats 4000000 in
theorem encStr (L : List UInt8) (hL : L.length ≤ 1000000) (g : Nat) (ba : Option Addr) (bn bc : Nat) (hbn : bn = L.length) (hbc : bn ≤ bc) (w : World) (hg : g < w.heap.size) (he : EncAt w g) (hB : BytesAt w L ba) :
    Calls Tryz.prog 95 #[.pointer (some ⟨g, 0, none⟩), .slice ba bn bc] w (Txt ⟨(b64 L).toArray⟩ w) := by
  subst hbn
  obtain ⟨N, hN⟩ : ∃ N, N = (b64 L).length := ⟨_, rfl⟩
  have hN2 := hN.trans (b64_length L)
  obtain ⟨i0, hi0, hz0, hz1, hz2⟩ := info_parts info5u
  obtain ⟨T, hT⟩ : ∃ T : ByteArray, T = ⟨(b64 L).toArray⟩ := ⟨_, rfl⟩
  rw [← hT]
  have HT := Lib.hid hT
  have HN := Lib.hid hN
  have HN2 := Lib.hid hN2
  have HE := Lib.hid he
  have HBA := Lib.hid hB
  have hNb : N ≤ 2000000 := by omega
  have HI := Lib.hid (And.intro hi0 (And.intro hz0 (And.intro hz1 hz2)))
  clear hT hN hN2 he hB hi0 hz0 hz1 hz2
  go_enter Tryz.func95, Tryz.ntmps95
  go_upto_region 2 with (first
    | (go_at_call 107; refine (encLen g L.length N _ HE.out (by omega) HN2.out).mono ?_; rintro e w' ⟨rfl, rfl⟩)
    | ((with_reducible refine wpList_at (some 10) ?_); refine wpList_make_row _ rfl (.tmp 9) (.tmp 9) 23 rfl 5 i0 (.int .u8 0) Tryz.underlying23 HI.out.1 HI.out.2.1 HI.out.2.2.1 rfl .i64 .i64 N rfl rfl (by rw [HI.out.2.2.2]; omega) (by omega) ?_))
  have hb1 := (Below.refl w'.heap.size w').alloc (Nat.le_refl _) (.cells (madeCells #[.int .u8 0] N) 5)
  have hrow : ∃ D : Array Value, (w'.alloc (.cells (madeCells #[.int .u8 0] N) 5)).heap[w'.heap.size]? = some (.cells D 5 (0, 0)) ∧ D.size = N ∧ (∀ v ∈ D.toList, ∃ k : Int, v = .int .u8 k) := by
    obtain ⟨c, hc, hs, hi⟩ := World.rowIs_made w' (.int .u8 0) N 5
    refine ⟨c, hc, hs, fun v hv => ⟨0, ?_⟩⟩
    obtain ⟨i, hi2, rfl⟩ := List.getElem_of_mem hv
    have h4 := hi i (by simpa [hs] using hi2)
    rw [Array.getElem?_eq_getElem (by simpa using hi2)] at h4
    simpa using h4
  have he1 := HE.out.kept (hb1.block g hg)
  have hB1 := HBA.out.kept (fun k hk => hb1.block k hk)
  have hBl : ∀ gs o, ba = some ⟨gs, o, none⟩ → L ≠ [] → gs < w'.heap.size := fun gs o e hne => by
    obtain ⟨gs', o', e', hr⟩ := HBA.out hne
    rw [e] at e'
    cases e'
    obtain ⟨a, r, rfl⟩ := List.exists_cons_of_ne_nil hne
    exact lt_of_cell (hr 0 _ (by simp [Lib.byteCells]; rfl))
  have hcall := encodeAny L hL g w'.heap.size bc N ba _ HN.out hg hBl he1 hB1 hrow hbc
  generalize (w'.alloc (.cells (madeCells #[.int .u8 0] N) 5)) = W1 at hb1 hcall ⊢
  have HC := Lib.hid hcall
  have HB1 := Lib.hid hb1
  clear hb1 hrow he1 hB1 hBl hcall
  go_wp2_with (first | (go_at_call 108; refine HC.out.mono ?_; rintro e w2 ⟨rfl, hD, hbe⟩; have hcv := b64_back HN.out HT.out hNb hD; have HB2 := Lib.hid (HB1.out.trans hbe); clear hbe hD))
  go_ret
  exact ⟨rfl, HB2.out⟩

set_option maxRecDepth 100000 in
/-- A row of bytes as a text. -/
theorem base64T (L : List UInt8) (hL : L.length ≤ 1000000) (ba : Option Addr) (bn bc : Nat) (hbn : bn = L.length) (hbc : bn ≤ bc) (w : World) (hB : BytesAt w L ba) :
    Calls Tryz.prog 79 #[.slice ba bn bc] w (Txt ⟨(b64 L).toArray⟩ w) := by
  have HB := Lib.hid hB
  have HN := Lib.hid hbn
  clear hB hbn
  go_enter Tryz.func79, Tryz.ntmps79
  go_wp2_with (first | (go_at_call 94; refine (stdEnc _).mono ?_; rintro e w1 ⟨g, rfl, h1, h2, h3, h4⟩; have HX := Lib.hid (And.intro h1 (And.intro h2 (And.intro h3 h4))); clear h1 h2 h3 h4) | (go_at_call 95; refine (encStr L hL g ba bn bc HN.out hbc _ HX.out.2.1 HX.out.2.2.1 (HB.out.kept (fun k hk => HX.out.2.2.2.block k hk))).mono ?_; rintro e w2 ⟨rfl, hb2⟩; have HB2 := Lib.hid hb2; clear hb2))
  go_ret
  exact ⟨rfl, HX.out.2.2.2.trans (HB2.out.mono HX.out.2.2.2.size)⟩

end Go.Proofs.YtpkfdbhpmhahaaaGreatDoor
