/- Leaves of the writer: base64's encoding. -/
import Derived.Test.YtpkfdbhpmhahaaaGreatDoorGc
import Derived.Lib.SlBuf
import Derived.Lib.BufferWrite
namespace Go.Proofs.YtpkfdbhpmhahaaaGreatDoor
open Go Go.RowKit Go.Lib
set_option linter.unusedSimpArgs false
set_option linter.unusedVariables false

def alphaS : ByteArray := ⟨#[65, 66, 67, 68, 69, 70, 71, 72, 73, 74, 75, 76, 77, 78, 79, 80, 81, 82, 83, 84, 85, 86, 87, 88, 89, 90, 97, 98, 99, 100, 101, 102, 103, 104, 105, 106, 107, 108, 109, 110, 111, 112, 113, 114, 115, 116, 117, 118, 119, 120, 121, 122, 48, 49, 50, 51, 52, 53, 54, 55, 56, 57, 43, 47]⟩
/-- A letter of the alphabet, as a number. -/
def alpha (i : Nat) : Nat := ((alphaS.data.toList[i]?).getD 0).toNat
theorem alpha_ok : ∀ i : Fin 64, alpha i.val ≠ 10 ∧ alpha i.val ≠ 13 ∧ alpha i.val < 128 := by decide +kernel
theorem alpha_inj : ∀ i j : Fin 64, alpha i.val = alpha j.val → i = j := by decide +kernel
theorem alpha_at (i : Nat) (h : i < alphaS.size) : (alphaS[i]'h).toNat = alpha i := by
  unfold alpha
  rw [List.getElem?_eq_getElem (by rw [data_length]; exact h)]
  rfl
noncomputable def c181 : Array Value := Tryz.zeroCells181.setIfInBounds 320 (.int .i32 61)
def ff256 : ByteArray := ⟨(List.replicate 256 (255 : UInt8)).toArray⟩
noncomputable def d181 : Array Value := (c181.toList.take 0 ++ byteCells alphaS.data.toList ++ c181.toList.drop (0 + 64)).toArray
noncomputable def e181 : Array Value := (d181.toList.take 64 ++ byteCells ff256.data.toList ++ d181.toList.drop (64 + 256)).toArray
theorem e181_size : e181.size = 322 := by kernel_rfl
theorem d181_size : d181.size = 322 := by kernel_rfl
theorem c181_size : c181.size = 322 := by kernel_rfl
theorem e181_is : e181 = (byteCells alphaS.data.toList ++ List.replicate 256 (Value.int .u8 255) ++ [Value.int .i32 61, Value.bool false]).toArray := by kernel_rfl
theorem e181_low (i : Nat) (h : i < 64) : e181[i]? = some (.int .u8 (alpha i : Nat)) := by
  rw [e181_is, List.getElem?_toArray, List.append_assoc, List.getElem?_append_left (by rw [byteCells_length]; exact h), byteCells_get]
  unfold alpha
  rw [List.getElem?_eq_getElem (by exact h)]
  rfl
theorem e181_mid (i : Nat) (h : i < 256) : e181[64 + i]? = some (.int .u8 255) := by
  rw [e181_is, List.getElem?_toArray, List.getElem?_append_left (by rw [List.length_append, byteCells_length, List.length_replicate]; show 64 + i < 64 + 256; omega), List.getElem?_append_right (by rw [byteCells_length]; show 64 ≤ 64 + i; omega), List.getElem?_replicate, if_pos (by rw [byteCells_length]; show 64 + i - 64 < 256; omega)]
theorem e181_top : e181[320]? = some (.int .i32 61) := by kernel_rfl

/-- The encoding stands in block g. -/
structure EncAt (w : World) (g : Nat) : Prop where
  low : ∀ i, i < 64 → w.cell? ⟨g, i, none⟩ = some (.int .u8 (alpha i : Nat))
  top : w.cell? ⟨g, 320, none⟩ = some (.int .i32 61)
theorem EncAt.kept {w w' : World} {g : Nat} (h : EncAt w g) (hk : w'.heap[g]? = w.heap[g]?) : EncAt w' g :=
  ⟨fun i hi => (World.cell?_of_block (a := ⟨g, i, none⟩) hk).trans (h.low i hi), (World.cell?_of_block (a := ⟨g, 320, none⟩) hk).trans h.top⟩

/-- The head of the loop that fills the map. -/
structure ER (w0 : World) (g i : Nat) (wx : World) : Prop where
  hi : i ≤ 64
  row : ∃ C : Array Value, wx.heap[g]? = some (.cells C 181 (0, 0)) ∧ C.size = 322 ∧ (∀ k, k < 64 → C[k]? = some (.int .u8 (alpha k : Nat))) ∧ C[320]? = some (.int .i32 61) ∧ (∀ j, i ≤ j → j < 64 → C[64 + alpha j]? = some (.int .u8 255)) ∧ (∀ j, j < 256 → ∃ k : Int, C[64 + j]? = some (.int .u8 k))
  below : Below w0.heap.size w0 wx
theorem ER.enc {w0 wx : World} {g i : Nat} (h : ER w0 g i wx) : EncAt wx g := by
  obtain ⟨C, hC, _, h1, h2, _⟩ := h.row
  exact ⟨fun i hi => by simp [World.cell?, hC, h1 i hi], by simp [World.cell?, hC, h2]⟩
theorem ER.step {w0 wx wy : World} {i : Nat} (h : ER w0 w0.heap.size i wx) (hi : i < 64) (v : Int) (hb : Below wx.heap.size wx wy) : ER w0 w0.heap.size (i + 1) ((wy.setCell ⟨w0.heap.size, 64 + alpha i, none⟩ (.int .u8 v))) := by
  obtain ⟨C, hC, hs, h1, h2, h3, h4⟩ := h.row
  have ha := (alpha_ok ⟨i, hi⟩).2.2
  have hg : wy.heap[w0.heap.size]? = some (.cells C 181 (0, 0)) := (hb.block _ (lt_of_heap hC)).trans hC
  refine ⟨hi, ⟨C.setIfInBounds (64 + alpha i) (.int .u8 v), heap_set hg, by simpa using hs, fun k hk => ?_, ?_, fun j hj hj2 => ?_, fun j hj => ?_⟩, (h.below.trans (hb.mono h.below.size)).trans ⟨rfl, rfl, rfl, by simp [World.setCell], fun k hk => heap_set_ne (Nat.ne_of_lt hk)⟩⟩
  · rw [Array.getElem?_setIfInBounds, if_neg (by omega)]; exact h1 k hk
  · rw [Array.getElem?_setIfInBounds, if_neg (by show ¬ (64 + alpha i = 320); have : alpha i < 128 := ha; omega)]; exact h2
  · rw [Array.getElem?_setIfInBounds, if_neg (fun e => by
      have e2 := alpha_inj ⟨i, hi⟩ ⟨j, hj2⟩ (by show alpha i = alpha j; omega)
      simp at e2
      omega)]
    exact h3 j (by omega) hj2
  · rw [Array.getElem?_setIfInBounds]
    split
    · rw [if_pos (by omega)]; exact ⟨v, rfl⟩
    · exact h4 j hj

theorem ER.cellAt {w0 wx : World} {g i : Nat} (h : ER w0 g i wx) (hi : i < 64) : wx.cell? ⟨g, 64 + alpha i, none⟩ = some (.int .u8 255) := by
  obtain ⟨C, hC, _, _, _, h3, _⟩ := h.row
  simp [World.cell?, hC, h3 i (Nat.le_refl _) hi]
theorem ER.frz {w0 wx : World} {g i : Nat} (h : ER w0 g i wx) (o : Nat) : wx.frozen? ⟨g, o, none⟩ = false := by
  obtain ⟨C, hC, _⟩ := h.row
  simp [World.frozen?, hC]
theorem ER.drew {w0 wx : World} {g i : Nat} (h : ER w0 g i wx) : ER w0 g i wx.drew := ⟨h.hi, h.row, below_drew h.below⟩
theorem ER.dn {w0 wx : World} {g i : Nat} (h : ER w0 g i wx) (q : Nat) : ER w0 g i (wx.drewN q) := ⟨h.hi, h.row, below_dn h.below q⟩

def NE (w : World) (e : Ending) (w' : World) : Prop := ∃ g, e = .returned (.pointer (some ⟨g, 0, none⟩)) ∧ w.heap.size ≤ g ∧ g < w'.heap.size ∧ EncAt w' g ∧ Below w.heap.size w w'

set_option maxRecDepth 100000 in
set_option maxHeartbeats 4000000 in
theorem newEnc (w : World) : Calls Tryz.prog 106 #[.string alphaS] w (NE w) := by
  obtain ⟨S, hS⟩ : ∃ S, S = alphaS := ⟨_, rfl⟩
  have hsz : S.size = 64 := by rw [hS]; rfl
  rw [← hS]
  have HS := Lib.hid hS
  clear hS
  have hA := heap_alloc_new w (.cells Tryz.zeroCells181 181)
  have hc320 : (w.alloc (.cells Tryz.zeroCells181 181)).cell? ⟨w.heap.size, 320, none⟩ = some (.int .i32 0) := by
    have e : Tryz.zeroCells181[320]? = some (.int .i32 0) := by kernel_rfl
    exact (World.cell?_alloc_new w _ _ 320).trans e
  have hf320 : (w.alloc (.cells Tryz.zeroCells181 181)).frozen? ⟨w.heap.size, 320, none⟩ = false := World.frozen?_alloc_new w _ _ _
  have HA := Lib.hid hA
  clear hA
  go_enter Tryz.func106, Tryz.ntmps106
  go_upto_region 5 with (fail)
  have h1 : (w.alloc (.cells (Tryz.zeroCells181.setIfInBounds 320 (.int .i32 61)) 181)).heap[w.heap.size]? = some (.cells c181 181 (0, 0)) := heap_alloc_new w _
  have hb1 : Below w.heap.size w (w.alloc (.cells (Tryz.zeroCells181.setIfInBounds 320 (.int .i32 61)) 181)) := (Below.refl _ _).alloc (Nat.le_refl _) _
  generalize (w.alloc (.cells (Tryz.zeroCells181.setIfInBounds 320 (.int .i32 61)) 181)) = W1 at h1 hb1 ⊢
  clear hc320 hf320 HA
  have HC1 := Lib.hid h1
  have HB1 := Lib.hid hb1
  clear h1 hb1
  go_upto_region 6 with (first | ((with_reducible refine wpList_at (some 18) ?_); refine wpList_copy_run _ rfl (.tmp 16) (.tmp 17) _ _ rfl _ _ rfl rfl (run_copy_row_string _ _ _ _ 5 w.heap.size 0 64 _ _ c181 181 Tryz.underlying23 (by kernel_rfl) HC1.out (by rw [HS.out]; decide) (by rw [HS.out, c181_size]; decide)) ?_))
  have h2 := setRow_heap W1 w.heap.size c181 d181 181 (0, 0) HC1.out
  have hb2 : Below w.heap.size w (W1.setRow w.heap.size d181) := below_setRow HB1.out (Nat.le_refl _) d181
  have e2 : (c181.toList.take 0 ++ byteCells S.data.toList ++ c181.toList.drop (0 + S.size)).toArray = d181 := by rw [HS.out]; rfl
  rw [e2]
  generalize W1.setRow w.heap.size d181 = W2 at h2 hb2 ⊢
  have HC2 := Lib.hid h2
  have HB2 := Lib.hid hb2
  clear h2 hb2 e2 HC1 HB1
  go_upto_region 7 with (first | ((with_reducible refine wpList_at (some 23) ?_); refine wpList_copy_run _ rfl (.tmp 22) _ _ _ rfl _ _ rfl rfl (run_copy_row_string _ _ _ _ 5 w.heap.size 64 256 _ ff256 d181 181 Tryz.underlying23 (by kernel_rfl) HC2.out (by decide) (by rw [d181_size]; decide)) ?_))
  have h3 := setRow_heap W2 w.heap.size d181 e181 181 (0, 0) HC2.out
  have hb3 : Below w.heap.size w (W2.setRow w.heap.size e181) := below_setRow HB2.out (Nat.le_refl _) e181
  have e3 : (d181.toList.take 64 ++ byteCells ff256.data.toList ++ d181.toList.drop (64 + ff256.size)).toArray = e181 := rfl
  rw [e3]
  generalize W2.setRow w.heap.size e181 = W3 at h3 hb3 ⊢
  clear e3 HC2 HB2
  have hER : ER w w.heap.size 0 W3 := ⟨by decide, ⟨e181, h3, e181_size, e181_low, e181_top, fun j _ hj => e181_mid _ (by have := (alpha_ok ⟨j, hj⟩).2.2; show alpha j < 256; simp at this; omega), fun j hj => ⟨255, e181_mid j hj⟩⟩, hb3⟩
  have HER := Lib.hid hER
  clear hER h3 hb3
  go_wp2
  go_loopg [4] 64 (fun m v4 wx => Aside (∃ i : Nat, m = 64 - i ∧ v4 = .int .i64 (i : Int) ∧ ER w w.heap.size i wx))
  case atStart => exact ⟨0, rfl, rfl, HER.out⟩
  case round =>
    obtain ⟨i, hgk, rfl, her⟩ := hrel.out
    have hi := her.hi
    clear hrel HER
    have HE := Lib.hid her
    clear her
    rcases Nat.lt_or_eq_of_le hi with hlt | rfl
    · have hltS : i < S.size := by omega
      have hcell := HE.out.cellAt hlt
      have hfz := HE.out.frz
      obtain ⟨b, hb⟩ : ∃ b, alpha i = b := ⟨_, rfl⟩
      have hget : (S[i]'hltS).toNat = b := by
        have := HS.out
        subst this
        rw [alpha_at, hb]
      have hbo := alpha_ok ⟨i, hlt⟩
      simp only at hbo
      rw [hb] at hbo hcell
      obtain ⟨n10, n13, hb128⟩ := hbo
      have m10 : ((b : Int) == 10) = false := by simp only [beq_eq_false_iff_ne, ne_eq]; omega
      have m13 : ((b : Int) == 13) = false := by simp only [beq_eq_false_iff_ne, ne_eq]; omega
      have hb0 : (0 : Int) ≤ (b : Nat) := by omega
      have hb256 : ((b : Nat) : Int) < 256 := by omega
      have hw8 : IntKind.u8.wrap ((i : Nat) : Int) = (i : Nat) := by rw [IntKind.wrap_u8]; omega
      have HBb := Lib.hid hb
      clear hb n10 n13 hb128 hi
      go_wp2
      go_quiet (fail)
      have he2 := HE.out.dn nq
      generalize wr.drewN nq = wq at he2 ⊢
      clear HE hcell hfz
      have HE := Lib.hid he2
      have hcell := he2.cellAt hlt
      have hfz := he2.frz
      rw [HBb.out] at hcell
      clear he2
      go_wp2
      go_still_tail 9, (by kernel_rfl)
      go_wp2
      go_roundg (64 - (i + 1))
      case measure => omega
      case rel =>
        have hs := HE.out.step hlt (i : Int) (Below.refl _ _)
        rw [HBb.out] at hs
        exact ⟨i + 1, rfl, rfl, hs.drew⟩
    · go_wp2
      go_ret
      exact ⟨_, rfl, Nat.le_refl _, lt_of_heap HE.out.row.choose_spec.1, HE.out.enc, HE.out.below⟩

end Go.Proofs.YtpkfdbhpmhahaaaGreatDoor
