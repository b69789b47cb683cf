/- FnExtTokensRefused: at every slice of numbers and every byte the law answers true, and both read as they did: the tied card. Its conditions: the listed package-level variables lie as the program's text lays them (tied). -/
import Derived.Test.YtdabllkphibfmaaGreatDoorGm
import Derived.Test.YtdabllkphibfmaaGreatDoorCards
import Derived.Test.YtdabllkphibfmaaGreatDoorTie
import Derived.Test.YtdabllkphibfmaaGreatDoorGp
import Derived.SevenTiedAt
namespace Go.Proofs.YtdabllkphibfmaaGreatDoor
open Go Go.ChangeShapes Go.WideShapes Go.ChangeAt Go.RowKit
open Go.ChangeMaps (open_string shut_string)

/-- A slice of bytes that came in, as the printed contracts read it. -/
theorem bytes_read8 {H : Type} {enc : TypeId × Value → H} {W : World} {a0 : Option Addr} {len cap : Nat} {d0 : DataW H} {p : List MemPlace}
    (h0 : DataW.Trod enc Tryz.prog W 0 (fun _ => true) true 31 (.slice a0 len cap) d0 p) :
    ∃ code : List Int, code.length = len ∧ Go.Proofs.YtdabllkphibfmaaGreatDoorW.PrintWords.Kd.C (Go.Proofs.YtdabllkphibfmaaGreatDoorW.PrintWords.Kd.int .u8) W a0 code.length code ∧ ∀ x ∈ code, 0 ≤ x ∧ x ≤ 255 := by
  obtain ⟨fuel, hf⟩ := h0
  rcases open_ints Tryz.underlying31 Tryz.underlying5 (by kernel_rfl) hf with ⟨hcs, _⟩ | ⟨x, l, c, zs, hcs, _, hl, hm, hz, _, hcell, hwf⟩
  · simp [Value.cells] at hcs
    obtain ⟨rfl, rfl, rfl⟩ := hcs
    exact ⟨[], rfl, ⟨rfl, by simp, fun h => by simp at h⟩, by simp⟩
  · simp [Value.cells] at hcs
    obtain ⟨rfl, rfl, rfl⟩ := hcs
    have hzl : zs.length = cap := by simpa using hz
    have ht : (zs.take len).length = len := by rw [List.length_take]; omega
    refine ⟨zs.take len, ht, ⟨rfl, ?_, fun _ => ⟨x, rfl, fun j q hq => ⟨[.int .u8 q], rfl, rfl, fun i u hu => ?_⟩⟩⟩, fun n hn => ?_⟩
    · rw [ht]; unfold maxLen at hm; omega
    · have hj : j < (zs.take len).length := (List.getElem?_eq_some_iff.1 hq).1
      rw [ht] at hj
      have hi : i = 0 := by
        have := (List.getElem?_eq_some_iff.1 hu).1
        simpa using this
      subst hi
      simp at hu
      subst hu
      have h1 := hcell j (by omega)
      show W.cell? (x.add (j * 1 + 0)) = _
      rw [Nat.mul_one, Nat.add_zero, h1]
      rw [List.getElem?_take, if_pos hj] at hq
      rw [List.getD_eq_getElem?_getD, hq]
      rfl
    · have := hwf n (List.mem_of_mem_take hn)
      simp [Lit.wf, IntKind.min, IntKind.max, IntKind.signed, IntKind.bits] at this
      omega

/-- A slice of numbers of 32 bits that came in. -/
theorem u32s_read {H : Type} {enc : TypeId × Value → H} {W : World} {a0 : Option Addr} {len cap : Nat} {d0 : DataW H} {p : List MemPlace}
    (h0 : DataW.Trod enc Tryz.prog W 0 (fun _ => true) true 34 (.slice a0 len cap) d0 p) :
    ∃ L : List Int, L.length = len ∧ Go.Proofs.YtdabllkphibfmaaGreatDoorW.PrintWords.ReadsInt W .u32 a0 L.length L ∧ ∀ x ∈ L, Kd.u32 x := by
  obtain ⟨fuel, hf⟩ := h0
  rcases open_ints Tryz.underlying34 Tryz.underlying69 (by kernel_rfl) hf with ⟨hcs, _⟩ | ⟨x, l, c, zs, hcs, _, hl, hm, hz, _, hcell, hwf⟩
  · simp [Value.cells] at hcs
    obtain ⟨rfl, rfl, rfl⟩ := hcs
    exact ⟨[], rfl, ⟨rfl, by simp, fun h => by simp at h⟩, by simp⟩
  · simp [Value.cells] at hcs
    obtain ⟨rfl, rfl, rfl⟩ := hcs
    have hzl : zs.length = cap := by simpa using hz
    have ht : (zs.take len).length = len := by rw [List.length_take]; omega
    refine ⟨zs.take len, ht, ⟨rfl, ?_, fun _ => ⟨x, rfl, fun j hj => ?_⟩⟩, fun n hn => ?_⟩
    · rw [ht]; unfold maxLen at hm; omega
    · rw [ht] at hj
      rw [hcell j (by omega), List.getD_eq_getElem?_getD, List.getD_eq_getElem?_getD, List.getElem?_take, if_pos hj]
    · have := hwf n (List.mem_of_mem_take hn)
      simp [Lit.wf, IntKind.min, IntKind.max, IntKind.signed, IntKind.bits] at this
      exact ⟨by omega, by omega⟩

/-- What the listed variables give a walk. -/
theorem tokVars_of_laid {W : World} {l : List (String × DataW Unit)} (h : laidMet Tryz.prog l W) (hd : l.drop 9 = [("strconv.ErrRange", Rows.laid_strconv_ErrRange), ("strconv.ErrSyntax", Rows.laid_strconv_ErrSyntax), ("io.EOF", Rows.laid_io_EOF), ("bytes.ErrTooLarge", Rows.laid_bytes_ErrTooLarge), ("internal/strconv.leftcheats", Rows.laid_internal_strconv_leftcheats), ("internal/strconv.pow10Tab", Rows.laid_internal_strconv_pow10Tab)])
    (h1 : ("internal/strconv.optimize", Rows.laid_internal_strconv_optimize) ∈ l) (h2 : ("internal/strconv.float64info", Rows.laid_internal_strconv_float64info) ∈ l) (h3 : ("internal/strconv.float64pow10", Rows.laid_internal_strconv_float64pow10) ∈ l) : ∃ ea, TokVars ea W := by
  have e11 : l.drop 11 = (l.drop 9).drop 2 := by rw [List.drop_drop]
  have e10 : l.drop 10 = (l.drop 9).drop 1 := by rw [List.drop_drop]
  obtain ⟨ea, heof⟩ := eof_of_laid (r := [("bytes.ErrTooLarge", Rows.laid_bytes_ErrTooLarge), ("internal/strconv.leftcheats", Rows.laid_internal_strconv_leftcheats), ("internal/strconv.pow10Tab", Rows.laid_internal_strconv_pow10Tab)]) 11 h (by rw [e11, hd]; rfl)
  exact ⟨ea, heof, flo_of_laid h h1 h2 h3, syn_of_laid (r := [("io.EOF", Rows.laid_io_EOF), ("bytes.ErrTooLarge", Rows.laid_bytes_ErrTooLarge), ("internal/strconv.leftcheats", Rows.laid_internal_strconv_leftcheats), ("internal/strconv.pow10Tab", Rows.laid_internal_strconv_pow10Tab)]) 10 h (by rw [e10, hd]; rfl), ran_of_laid 9 h hd⟩

end Go.Proofs.YtdabllkphibfmaaGreatDoor

/- FnExtTokensRefused, walked. -/
namespace Go.Proofs.YtdabllkphibfmaaGreatDoor
open Go Go.RowKit PFnExtTokens Go.Proofs.YtdabllkphibfmaaGreatDoorW.PrintWords
set_option linter.unusedSimpArgs false
set_option linter.unusedVariables false

/-- What begins no token. -/
def wrongs : List (List UInt8) := [[116, 114, 117], [110, 117, 108], [102, 97, 108, 115, 121], [49, 46], [45], [48, 49], [49, 101], [49, 101, 43], [46, 53], [43, 49], [34, 97], [34, 92, 113, 34], [34, 92, 117, 49, 50, 34], [39, 97, 39], [195, 169], [95], [34, 92], [45, 97], [49, 46, 101, 53], [116, 114, 117, 101, 102, 97, 108, 115, 101], [78, 97, 78], [73, 110, 102, 105, 110, 105, 116, 121]]

theorem wrong_toks (n : Nat) : ∀ x ∈ wrongs, toks (numSub pfQuick) litRun n 1 (32 :: x) = some ([], false) := by
  intro x h
  simp only [wrongs, List.mem_cons, List.not_mem_nil, or_false] at h
  rcases h with rfl | rfl | rfl | rfl | rfl | rfl | rfl | rfl | rfl | rfl | rfl | rfl | rfl | rfl | rfl | rfl | rfl | rfl | rfl | rfl | rfl | rfl
  · kernel_rfl
  · kernel_rfl
  · kernel_rfl
  · kernel_rfl
  · kernel_rfl
  · kernel_rfl
  · kernel_rfl
  · kernel_rfl
  · kernel_rfl
  · kernel_rfl
  · kernel_rfl
  · kernel_rfl
  · kernel_rfl
  · kernel_rfl
  · kernel_rfl
  · kernel_rfl
  · kernel_rfl
  · kernel_rfl
  · kernel_rfl
  · kernel_rfl
  · kernel_rfl
  · kernel_rfl

theorem wrong_at (j : Nat) (hj : j < 22) : ∃ x : List UInt8, x ∈ wrongs ∧ x.length ≤ 10 ∧ ([.string ⟨#[116, 114, 117]⟩, .string ⟨#[110, 117, 108]⟩, .string ⟨#[102, 97, 108, 115, 121]⟩, .string ⟨#[49, 46]⟩, .string ⟨#[45]⟩, .string ⟨#[48, 49]⟩, .string ⟨#[49, 101]⟩, .string ⟨#[49, 101, 43]⟩, .string ⟨#[46, 53]⟩, .string ⟨#[43, 49]⟩, .string ⟨#[34, 97]⟩, .string ⟨#[34, 92, 113, 34]⟩, .string ⟨#[34, 92, 117, 49, 50, 34]⟩, .string ⟨#[39, 97, 39]⟩, .string ⟨#[195, 169]⟩, .string ⟨#[95]⟩, .string ⟨#[34, 92]⟩, .string ⟨#[45, 97]⟩, .string ⟨#[49, 46, 101, 53]⟩, .string ⟨#[116, 114, 117, 101, 102, 97, 108, 115, 101]⟩, .string ⟨#[78, 97, 78]⟩, .string ⟨#[73, 110, 102, 105, 110, 105, 116, 121]⟩] : List Value)[j]? = some (.string ⟨x.toArray⟩) := by
  have hl : wrongs.length = 22 := rfl
  have all : ∀ x ∈ wrongs, x.length ≤ 10 := by decide
  refine ⟨wrongs[j]'(by omega), List.getElem_mem _, all _ (List.getElem_mem _), ?_⟩
  show (wrongs.map fun x : List UInt8 => Value.string ⟨x.toArray⟩)[j]? = _
  rw [List.getElem?_map, List.getElem?_eq_getElem (by omega)]
  rfl

theorem cell_arr {w : World} {g : Nat} {l : Array Value} {t : Nat} {p : Nat × Nat} (h : w.heap[g]? = some (.cells l t p)) (j : Nat) : w.cell? ⟨g, j, none⟩ = l[j]? := by
  simp [World.cell?, h]

/-- ExtTokens at a text of marks with what begins none behind it. -/
theorem refused_toks (ms : List Mk) (s : List UInt8) (pl : List Nat) (h : Parts 0 0 ms s pl) (hm : ∀ m ∈ ms, IsMk m) (x : List UInt8) (hx : x ∈ wrongs) : ∃ ts, Fits ms pl ts ∧ toks (numSub pfQuick) litRun (s ++ 32 :: x).length (1 + ms.length) (s ++ 32 :: x) = some (ts, false) := by
  obtain ⟨ts, h1, h2⟩ := toks_parts ms 0 0 s pl h hm (32 :: x) (.inr ⟨32, x, rfl, by decide⟩) (s ++ 32 :: x).length 1 [] false (by simp) (wrong_toks _ x hx)
  rw [List.append_nil] at h2
  exact ⟨ts, h1, h2⟩

set_option maxRecDepth 1000000 in
set_option maxHeartbeats 40000000 in
/-- The law. -/
theorem lawRefused (L : List Int) (A : Option Addr) (c : Nat) (bad : Nat) (ea : Addr) (w : World) (hA : ReadsInt w .u32 A L.length L) (hL : ∀ x ∈ L, Kd.u32 x) (hbad : bad < 256) (hv : TokVars ea w) :
    Calls Tryz.prog 6 #[.slice A L.length c, .int .u8 bad] w fun e w' => e = .returned (.bool true) ∧ Below w.heap.size w w' := by
  by_cases h1 : L.length ≤ 100
  · have HX := Lib.hid (extMarks L A c w hA hL h1)
    have HV := Lib.hid hv
    clear hA hL hv
    go_enter Tryz.func6, Tryz.ntmps6
    go_wp2_with fail
    refine (HX.out).mono ?_
    rintro e w1 ⟨ms, v, rfl, hms, hlen, hown, hb1⟩
    obtain ⟨ao, cap, rfl⟩ := row_slice hown
    have HMS := Lib.hid hms
    have HOWN := Lib.hid hown
    have HB1 := Lib.hid hb1
    have hml : ms.length ≤ 100 := by omega
    clear hms hown hb1 HX hlen
    go_wp2_with fail
    refine (extMarksText ms HMS.out hml [] none 0 ao cap (w.heap.size + 1) w1 ⟨rfl, by simp, fun h => by simp at h⟩ (by simp) (by simp) HOWN.out).mono ?_
    rintro e w2 ⟨s, pl, v2, rfl, hparts, hs, hpll, hown2, hb2⟩
    have HTV := Lib.hid (HV.out.below (HB1.out.trans (hb2.mono HB1.out.size)))
    have HPT := Lib.hid hparts
    have HB2 := Lib.hid (HB1.out.trans (hb2.mono HB1.out.size))
    obtain ⟨ts, hfits, htoks⟩ := toks_all ms s.data.toList pl hparts HMS.out
    have htl := hfits.len.1
    have hts100 : ts.length ≤ 100 := by omega
    have HF := Lib.hid hfits
    have HT := Lib.hid htoks
    clear hparts hpll hown2 hb2 hfits htoks htl
    obtain ⟨j, hj⟩ : ∃ j : Nat, j = bad % 22 := ⟨_, rfl⟩
    have hj22 : j < 22 := by omega
    have hm22 : (bad : Int) % 22 = (j : Nat) := by omega
    have hm22t : Int.tmod (bad : Int) 22 = (j : Nat) := by rw [Int.tmod_eq_emod_of_nonneg (by omega)]; exact hm22
    clear hj
    obtain ⟨x, hx, hxl, hxq⟩ := wrong_at j hj22
    obtain ⟨xb, hxb⟩ : ∃ xb : ByteArray, xb = ⟨x.toArray⟩ := ⟨_, rfl⟩
    rw [← hxb] at hxq
    have hxs : xb.size ≤ 10 := by rw [hxb]; simpa [ByteArray.size] using hxl
    have HXB := Lib.hid hxb
    have HXX := Lib.hid hx
    clear hxb hx
    have hxq2 : ([.string ⟨#[116, 114, 117]⟩, .string ⟨#[110, 117, 108]⟩, .string ⟨#[102, 97, 108, 115, 121]⟩, .string ⟨#[49, 46]⟩, .string ⟨#[45]⟩, .string ⟨#[48, 49]⟩, .string ⟨#[49, 101]⟩, .string ⟨#[49, 101, 43]⟩, .string ⟨#[46, 53]⟩, .string ⟨#[43, 49]⟩, .string ⟨#[34, 97]⟩, .string ⟨#[34, 92, 113, 34]⟩, .string ⟨#[34, 92, 117, 49, 50, 34]⟩, .string ⟨#[39, 97, 39]⟩, .string ⟨#[195, 169]⟩, .string ⟨#[95]⟩, .string ⟨#[34, 92]⟩, .string ⟨#[45, 97]⟩, .string ⟨#[49, 46, 101, 53]⟩, .string ⟨#[116, 114, 117, 101, 102, 97, 108, 115, 101]⟩, .string ⟨#[78, 97, 78]⟩, .string ⟨#[73, 110, 102, 105, 110, 105, 116, 121]⟩] : List Value)[j]'(by simpa using hj22) = .string xb := by
      have h := hxq
      rw [List.getElem?_eq_getElem (by simpa using hj22)] at h
      exact Option.some.inj h
    clear hxq
    go_wp2_with fail
    have hblk := heap_alloc_new w2 (.cells #[.string ⟨#[116, 114, 117]⟩, .string ⟨#[110, 117, 108]⟩, .string ⟨#[102, 97, 108, 115, 121]⟩, .string ⟨#[49, 46]⟩, .string ⟨#[45]⟩, .string ⟨#[48, 49]⟩, .string ⟨#[49, 101]⟩, .string ⟨#[49, 101, 43]⟩, .string ⟨#[46, 53]⟩, .string ⟨#[43, 49]⟩, .string ⟨#[34, 97]⟩, .string ⟨#[34, 92, 113, 34]⟩, .string ⟨#[34, 92, 117, 49, 50, 34]⟩, .string ⟨#[39, 97, 39]⟩, .string ⟨#[195, 169]⟩, .string ⟨#[95]⟩, .string ⟨#[34, 92]⟩, .string ⟨#[45, 97]⟩, .string ⟨#[49, 46, 101, 53]⟩, .string ⟨#[116, 114, 117, 101, 102, 97, 108, 115, 101]⟩, .string ⟨#[78, 97, 78]⟩, .string ⟨#[73, 110, 102, 105, 110, 105, 116, 121]⟩] 9)
    refine (extTokensQ s (by omega) ea _ (HTV.out.below ((Below.refl _ _).alloc (Nat.le_refl _) _)) (1 + ms.length) ts true (by omega) (fits_kind HF.out HMS.out) (fits_inR HF.out) HT.out).mono ?_
    rintro e w3 ⟨v3, rfl, hown3, hb3⟩
    have hc3 := cell_arr (blk_after hb3 hblk) j
    simp only [List.getElem?_toArray] at hc3
    rw [List.getElem?_eq_getElem (by simpa using hj22), hxq2] at hc3
    have HB3 := Lib.hid (below_via hb3 (below_one _ _))
    clear hown3 hb3 hblk
    go_wp2_with fail
    obtain ⟨ts2, hf2, ht2⟩ := refused_toks ms s.data.toList pl HPT.out HMS.out x HXX.out
    have hl2 := hf2.len.1
    have hbt : (s ++ ⟨#[32]⟩ ++ xb : ByteArray).data.toList = s.data.toList ++ 32 :: x := by rw [HXB.out]; simp
    have hsz2 : (s ++ ⟨#[32]⟩ ++ xb : ByteArray).size = (s.data.toList ++ 32 :: x).length := by rw [← hbt]; rfl
    have hrun2 : toks (numSub pfQuick) litRun (s ++ ⟨#[32]⟩ ++ xb : ByteArray).size (1 + ms.length) (s ++ ⟨#[32]⟩ ++ xb : ByteArray).data.toList = some (ts2, false) := by rw [hbt, hsz2]; exact ht2
    refine (extTokensQ (s ++ ⟨#[32]⟩ ++ xb) (by rw [ByteArray.size_append, ByteArray.size_append]; have h32 : (⟨#[32]⟩ : ByteArray).size = 1 := rfl; omega) ea w3 (HTV.out.below HB3.out) (1 + ms.length) ts2 false (by omega) (fits_kind hf2 HMS.out) (fits_inR hf2) hrun2).mono ?_
    rintro e w4 ⟨v4, rfl, hown4, hb4⟩
    have HB4 := Lib.hid hb4
    clear hown4 hb4 hf2 ht2 hl2 hbt hsz2 hrun2
    go_wp2_with fail
    go_ret
    exact ⟨rfl, ((HB2.out.trans (HB3.out.mono HB2.out.size)).trans (HB4.out.mono (Nat.le_trans HB2.out.size HB3.out.size)))⟩
  · go_enter Tryz.func6, Tryz.ntmps6
    go_wp2
    all_goals (go_ret; exact ⟨rfl, Below.refl _ w⟩)

end Go.Proofs.YtdabllkphibfmaaGreatDoor

namespace Go.Proofs.YtdabllkphibfmaaGreatDoor
open Go Go.ChangeShapes Go.WideShapes Go.ChangeAt Go.RowKit
open Go.ChangeMaps (open_string shut_string)

set_option maxRecDepth 100000 in
theorem refusedLifted (os : Os) (started : os.Started) (H : Type) (enc : TypeId × Value → H) :
    ReturnsInHanded {} Tryz.checked os 6 .any (fun w args => (Rows.fnExtTokensRefusedSpec.pre enc Tryz.prog Tryz.f6 [] false w args ∧ laidMetH Tryz.prog Rows.fnExtTokensRefusedRow.laid w) ∧ sizedMet enc Tryz.prog Tryz.f6 (OpenSpec.ofChange Rows.fnExtTokensRefusedSpec) false w args)
      (Rows.fnExtTokensRefusedSpec.post enc Tryz.prog Tryz.f6 false true false false) := by
  refine returnsInHanded_of_change_and (C := Tryz.checked) (X := fun w _ => laidMetH Tryz.prog Rows.fnExtTokensRefusedRow.laid w) (fun _ _ _ hh h => h.of_heap hh) own started (by kernel_rfl) Tryz.func6
    (ChangeSpec.witness_shaped (enc := enc) (C := Tryz.checked) (os := os) (X := fun w _ => laidMetH Tryz.prog Rows.fnExtTokensRefusedRow.laid w) false (World.laidAll Tryz.prog os Rows.fnExtTokensRefusedRow.laid) #[.slice none 0 0, .int .u8 0] 8 (World.laidAll_os _ _ _)
      (World.shaped_of_ZipB (by kernel_rfl) (by kernel_rfl)) (by kernel_rfl) (by kernel_rfl) (by kernel_rfl)
      (by rw [MakeChecks.laidMetH_plain _ _ _ (by kernel_rfl)]; exact laidMet_laidAll _ (by kernel_rfl) (by kernel_rfl))) ?_
  intro W base args ds gs before hval0 hW _ _ hL _
  have hval : ∀ (j : Nat) t v, Tryz.f6.params[j]? = some t → args[j]? = some v → Value.okWide Tryz.prog W .any base t v := hval0
  have hW' := hW
  obtain ⟨p, q, hA0, hV, rfl, _, _⟩ := hW
  have hA : DataW.TrodAll enc Tryz.prog W 0 (fun _ => true) true Tryz.f6.params.toList args.toList ds p := hA0
  rw [Tryz.params6] at hA hval
  obtain ⟨v0, v1, d0, d1, p0, p1, rfl, rfl, rfl, h0, h1⟩ := trodAll_two hA
  obtain ⟨rfl, rfl⟩ := trodVars_none hV
  have lt0 : ∀ x ∈ p0, x.block < W.heap.size := by obtain ⟨m, hm⟩ := h0; exact DataW.trod_lt m _ _ _ hm
  have lt1 : ∀ x ∈ p1, x.block < W.heap.size := by obtain ⟨m, hm⟩ := h1; exact DataW.trod_lt m _ _ _ hm
  obtain ⟨a0, len0, cap0, rfl⟩ := okWide_slice Tryz.underlying34 (hval 0 34 v0 rfl rfl)
  have k1 := h1
  obtain ⟨n, rfl, rfl, rfl, hn⟩ := open_int Tryz.underlying5 (hval 1 5 v1 rfl rfl) h1
  simp [Lit.wf, IntKind.min, IntKind.max, IntKind.signed, IntKind.bits] at hn
  obtain ⟨bad, rfl⟩ : ∃ bad : Nat, n = bad := ⟨n.toNat, by omega⟩
  simp only [List.append_nil] at hW'
  rw [MakeChecks.laidMetH_plain _ _ _ (by kernel_rfl)] at hL
  obtain ⟨ea, hv⟩ := tokVars_of_laid hL rfl (by simp [Rows.fnExtTokensRefusedRow]) (by simp [Rows.fnExtTokensRefusedRow]) (by simp [Rows.fnExtTokensRefusedRow])
  obtain ⟨L, rfl, hR, hL32⟩ := u32s_read h0
  refine (lawRefused L a0 cap0 bad ea W hR hL32 (by omega) hv).mono fun e W' ⟨he, bel⟩ => ?_
  subst he
  exact ⟨_, rfl, _, _, _, [], _, [], hW', trodAll_mk1 (shut_bool Tryz.underlying4 _), trodAll_mk2 (Below.trod laidOut (by kernel_rfl) (of_decide_eq_true (by kernel_rfl)) h0 bel lt0) (Below.trod laidOut (by kernel_rfl) (of_decide_eq_true (by kernel_rfl)) k1 bel lt1), rfl, bel.frame _, fun h => by cases h⟩

theorem refused_holds : Rows.FnExtTokensRefusedSaid :=
  OpenClaim.holds_of_wide 6 Tryz.f6 rfl rfl rfl rfl rfl rfl rfl ⟨rfl, rfl, rfl, rfl, rfl⟩ rfl rfl rfl rfl rfl (by kernel_rfl) Tryz.func6 (by kernel_rfl)
    (of_decide_eq_true (by kernel_rfl)) (by unfold Func.isWrapper; first | (rw [if_pos (by decide +kernel)]; kernel_rfl) | (rw [if_neg (by decide +kernel)]; exact ⟨rfl, rfl⟩))
    (fun os started H enc _ => refusedLifted os started H enc)

theorem refused_plain (f : FuncId) (fn : Func) (hf : Tryz.pinned.checked.prog.funcNamed "pub-gunnysack/laws.FnExtTokensRefused" = some f) (hfn : Tryz.pinned.checked.prog.funcs[f]? = some fn) :
    true = Tryz.pinned.checked.prog.looks [] ∧ ∀ (j : Nat) t, fn.params[j]? = some t → Tryz.pinned.checked.prog.wantsStandIn t = false := by
  obtain rfl : f = 6 := Option.some.inj ((show Tryz.prog.funcNamed "pub-gunnysack/laws.FnExtTokensRefused" = some 6 by kernel_rfl).symm.trans hf) |>.symm
  obtain rfl : fn = Tryz.f6 := (Option.some.inj (Tryz.func6.symm.trans hfn)).symm
  refine ⟨by kernel_rfl, fun j t ht => ?_⟩
  rw [Tryz.params6] at ht
  have hm : t ∈ [34, 5] := by simpa using Array.mem_of_getElem? ht
  have hall : ([34, 5].all fun u => !Tryz.prog.wantsStandIn u) = true := by kernel_rfl
  exact (show Tryz.prog.wantsStandIn t = false by simpa using List.all_eq_true.1 hall t hm)

/-- THE STATEMENT. -/
theorem refused_card : Rows.FnExtTokensRefusedCardSaid :=
  Claim7.holds_tied_plain_at .later [] _ _ _ _ refused_holds (fun _ h => by cases h) (by kernel_rfl) (fun _ h => by cases h) fnExtTokensRefused_row_tie rfl ⟨rfl, rfl⟩ (by kernel_rfl) rfl refused_plain (by kernel_rfl)
#print axioms refused_card
end Go.Proofs.YtdabllkphibfmaaGreatDoor
