/- FnExtTokens: at every slice of numbers and every style the law answers true, and both read as they did: the tied card. Its conditions: the listed package-level variables lie as the program's text lays them (tied). -/
import Derived.Test.YtdabllkphibfmaaGreatDoorGm
import Derived.Test.YtdabllkphibfmaaGreatDoorCards
import Derived.Test.YtdabllkphibfmaaGreatDoorTie
import Derived.Test.YtdabllkphibfmaaGreatDoorGp
import Derived.SevenTiedAt
namespace Go.Proofs.YtdabllkphibfmaaGreatDoor
open Go Go.ChangeShapes Go.WideShapes Go.ChangeAt Go.RowKit
open Go.ChangeMaps (open_string shut_string)

/-- A slice of bytes that came in, as the printed contracts read it. -/
theorem bytes_read8 {H : Type} {enc : TypeId × Value → H} {W : World} {a0 : Option Addr} {len cap : Nat} {d0 : DataW H} {p : List MemPlace}
    (h0 : DataW.Trod enc Tryz.prog W 0 (fun _ => true) true 31 (.slice a0 len cap) d0 p) :
    ∃ code : List Int, code.length = len ∧ Go.Proofs.YtdabllkphibfmaaGreatDoorW.PrintWords.Kd.C (Go.Proofs.YtdabllkphibfmaaGreatDoorW.PrintWords.Kd.int .u8) W a0 code.length code ∧ ∀ x ∈ code, 0 ≤ x ∧ x ≤ 255 := by
  obtain ⟨fuel, hf⟩ := h0
  rcases open_ints Tryz.underlying31 Tryz.underlying5 (by kernel_rfl) hf with ⟨hcs, _⟩ | ⟨x, l, c, zs, hcs, _, hl, hm, hz, _, hcell, hwf⟩
  · simp [Value.cells] at hcs
    obtain ⟨rfl, rfl, rfl⟩ := hcs
    exact ⟨[], rfl, ⟨rfl, by simp, fun h => by simp at h⟩, by simp⟩
  · simp [Value.cells] at hcs
    obtain ⟨rfl, rfl, rfl⟩ := hcs
    have hzl : zs.length = cap := by simpa using hz
    have ht : (zs.take len).length = len := by rw [List.length_take]; omega
    refine ⟨zs.take len, ht, ⟨rfl, ?_, fun _ => ⟨x, rfl, fun j q hq => ⟨[.int .u8 q], rfl, rfl, fun i u hu => ?_⟩⟩⟩, fun n hn => ?_⟩
    · rw [ht]; unfold maxLen at hm; omega
    · have hj : j < (zs.take len).length := (List.getElem?_eq_some_iff.1 hq).1
      rw [ht] at hj
      have hi : i = 0 := by
        have := (List.getElem?_eq_some_iff.1 hu).1
        simpa using this
      subst hi
      simp at hu
      subst hu
      have h1 := hcell j (by omega)
      show W.cell? (x.add (j * 1 + 0)) = _
      rw [Nat.mul_one, Nat.add_zero, h1]
      rw [List.getElem?_take, if_pos hj] at hq
      rw [List.getD_eq_getElem?_getD, hq]
      rfl
    · have := hwf n (List.mem_of_mem_take hn)
      simp [Lit.wf, IntKind.min, IntKind.max, IntKind.signed, IntKind.bits] at this
      omega

/-- A slice of numbers of 32 bits that came in. -/
theorem u32s_read {H : Type} {enc : TypeId × Value → H} {W : World} {a0 : Option Addr} {len cap : Nat} {d0 : DataW H} {p : List MemPlace}
    (h0 : DataW.Trod enc Tryz.prog W 0 (fun _ => true) true 34 (.slice a0 len cap) d0 p) :
    ∃ L : List Int, L.length = len ∧ Go.Proofs.YtdabllkphibfmaaGreatDoorW.PrintWords.ReadsInt W .u32 a0 L.length L ∧ ∀ x ∈ L, Kd.u32 x := by
  obtain ⟨fuel, hf⟩ := h0
  rcases open_ints Tryz.underlying34 Tryz.underlying69 (by kernel_rfl) hf with ⟨hcs, _⟩ | ⟨x, l, c, zs, hcs, _, hl, hm, hz, _, hcell, hwf⟩
  · simp [Value.cells] at hcs
    obtain ⟨rfl, rfl, rfl⟩ := hcs
    exact ⟨[], rfl, ⟨rfl, by simp, fun h => by simp at h⟩, by simp⟩
  · simp [Value.cells] at hcs
    obtain ⟨rfl, rfl, rfl⟩ := hcs
    have hzl : zs.length = cap := by simpa using hz
    have ht : (zs.take len).length = len := by rw [List.length_take]; omega
    refine ⟨zs.take len, ht, ⟨rfl, ?_, fun _ => ⟨x, rfl, fun j hj => ?_⟩⟩, fun n hn => ?_⟩
    · rw [ht]; unfold maxLen at hm; omega
    · rw [ht] at hj
      rw [hcell j (by omega), List.getD_eq_getElem?_getD, List.getD_eq_getElem?_getD, List.getElem?_take, if_pos hj]
    · have := hwf n (List.mem_of_mem_take hn)
      simp [Lit.wf, IntKind.min, IntKind.max, IntKind.signed, IntKind.bits] at this
      exact ⟨by omega, by omega⟩

/-- What the listed variables give a walk. -/
theorem tokVars_of_laid {W : World} {l : List (String × DataW Unit)} (h : laidMet Tryz.prog l W) (hd : l.drop 9 = [("strconv.ErrRange", Rows.laid_strconv_ErrRange), ("strconv.ErrSyntax", Rows.laid_strconv_ErrSyntax), ("io.EOF", Rows.laid_io_EOF), ("bytes.ErrTooLarge", Rows.laid_bytes_ErrTooLarge), ("internal/strconv.leftcheats", Rows.laid_internal_strconv_leftcheats), ("internal/strconv.pow10Tab", Rows.laid_internal_strconv_pow10Tab)])
    (h1 : ("internal/strconv.optimize", Rows.laid_internal_strconv_optimize) ∈ l) (h2 : ("internal/strconv.float64info", Rows.laid_internal_strconv_float64info) ∈ l) (h3 : ("internal/strconv.float64pow10", Rows.laid_internal_strconv_float64pow10) ∈ l) : ∃ ea, TokVars ea W := by
  have e11 : l.drop 11 = (l.drop 9).drop 2 := by rw [List.drop_drop]
  have e10 : l.drop 10 = (l.drop 9).drop 1 := by rw [List.drop_drop]
  obtain ⟨ea, heof⟩ := eof_of_laid (r := [("bytes.ErrTooLarge", Rows.laid_bytes_ErrTooLarge), ("internal/strconv.leftcheats", Rows.laid_internal_strconv_leftcheats), ("internal/strconv.pow10Tab", Rows.laid_internal_strconv_pow10Tab)]) 11 h (by rw [e11, hd]; rfl)
  exact ⟨ea, heof, flo_of_laid h h1 h2 h3, syn_of_laid (r := [("io.EOF", Rows.laid_io_EOF), ("bytes.ErrTooLarge", Rows.laid_bytes_ErrTooLarge), ("internal/strconv.leftcheats", Rows.laid_internal_strconv_leftcheats), ("internal/strconv.pow10Tab", Rows.laid_internal_strconv_pow10Tab)]) 10 h (by rw [e10, hd]; rfl), ran_of_laid 9 h hd⟩

end Go.Proofs.YtdabllkphibfmaaGreatDoor

namespace Go.Proofs.YtdabllkphibfmaaGreatDoor
open Go Go.ChangeShapes Go.WideShapes Go.ChangeAt Go.RowKit
open Go.ChangeMaps (open_string shut_string)

set_option maxRecDepth 100000 in
theorem tokensLifted (os : Os) (started : os.Started) (H : Type) (enc : TypeId × Value → H) :
    ReturnsInHanded {} Tryz.checked os 5 .any (fun w args => (Rows.fnExtTokensSpec.pre enc Tryz.prog Tryz.f5 [] false w args ∧ laidMetH Tryz.prog Rows.fnExtTokensRow.laid w) ∧ sizedMet enc Tryz.prog Tryz.f5 (OpenSpec.ofChange Rows.fnExtTokensSpec) false w args)
      (Rows.fnExtTokensSpec.post enc Tryz.prog Tryz.f5 false true false false) := by
  refine returnsInHanded_of_change_and (C := Tryz.checked) (X := fun w _ => laidMetH Tryz.prog Rows.fnExtTokensRow.laid w) (fun _ _ _ hh h => h.of_heap hh) own started (by kernel_rfl) Tryz.func5
    (ChangeSpec.witness_shaped (enc := enc) (C := Tryz.checked) (os := os) (X := fun w _ => laidMetH Tryz.prog Rows.fnExtTokensRow.laid w) false (World.laidAll Tryz.prog os Rows.fnExtTokensRow.laid) #[.slice none 0 0, .slice none 0 0] 8 (World.laidAll_os _ _ _)
      (World.shaped_of_ZipB (by kernel_rfl) (by kernel_rfl)) (by kernel_rfl) (by kernel_rfl) (by kernel_rfl)
      (by rw [MakeChecks.laidMetH_plain _ _ _ (by kernel_rfl)]; exact laidMet_laidAll _ (by kernel_rfl) (by kernel_rfl))) ?_
  intro W base args ds gs before hval0 hW _ _ hL _
  have hval : ∀ (j : Nat) t v, Tryz.f5.params[j]? = some t → args[j]? = some v → Value.okWide Tryz.prog W .any base t v := hval0
  have hW' := hW
  obtain ⟨p, q, hA0, hV, rfl, _, _⟩ := hW
  have hA : DataW.TrodAll enc Tryz.prog W 0 (fun _ => true) true Tryz.f5.params.toList args.toList ds p := hA0
  rw [Tryz.params5] at hA hval
  obtain ⟨v0, v1, d0, d1, p0, p1, rfl, rfl, rfl, h0, h1⟩ := trodAll_two hA
  obtain ⟨rfl, rfl⟩ := trodVars_none hV
  have lt0 : ∀ x ∈ p0, x.block < W.heap.size := by obtain ⟨m, hm⟩ := h0; exact DataW.trod_lt m _ _ _ hm
  have lt1 : ∀ x ∈ p1, x.block < W.heap.size := by obtain ⟨m, hm⟩ := h1; exact DataW.trod_lt m _ _ _ hm
  obtain ⟨a0, len0, cap0, rfl⟩ := okWide_slice Tryz.underlying34 (hval 0 34 v0 rfl rfl)
  obtain ⟨a1, len1, cap1, rfl⟩ := okWide_slice Tryz.underlying31 (hval 1 31 v1 rfl rfl)
  simp only [List.append_nil] at hW'
  rw [MakeChecks.laidMetH_plain _ _ _ (by kernel_rfl)] at hL
  obtain ⟨ea, hv⟩ := tokVars_of_laid hL rfl (by simp [Rows.fnExtTokensRow]) (by simp [Rows.fnExtTokensRow]) (by simp [Rows.fnExtTokensRow])
  obtain ⟨L, rfl, hR, hL32⟩ := u32s_read h0
  obtain ⟨code, rfl, hC, hc8⟩ := bytes_read8 h1
  refine (lawTokens L a0 cap0 code a1 cap1 ea W hR hL32 hC hc8 hv).mono fun e W' ⟨he, bel⟩ => ?_
  subst he
  exact ⟨_, rfl, _, _, _, [], _, [], hW', trodAll_mk1 (shut_bool Tryz.underlying4 _), trodAll_mk2 (Below.trod laidOut (by kernel_rfl) (of_decide_eq_true (by kernel_rfl)) h0 bel lt0) (Below.trod laidOut (by kernel_rfl) (of_decide_eq_true (by kernel_rfl)) h1 bel lt1), rfl, bel.frame _, fun h => by cases h⟩

theorem tokens_holds : Rows.FnExtTokensSaid :=
  OpenClaim.holds_of_wide 5 Tryz.f5 rfl rfl rfl rfl rfl rfl rfl ⟨rfl, rfl, rfl, rfl, rfl⟩ rfl rfl rfl rfl rfl (by kernel_rfl) Tryz.func5 (by kernel_rfl)
    (of_decide_eq_true (by kernel_rfl)) (by unfold Func.isWrapper; first | (rw [if_pos (by decide +kernel)]; kernel_rfl) | (rw [if_neg (by decide +kernel)]; exact ⟨rfl, rfl⟩))
    (fun os started H enc _ => tokensLifted os started H enc)

theorem tokens_plain (f : FuncId) (fn : Func) (hf : Tryz.pinned.checked.prog.funcNamed "pub-gunnysack/laws.FnExtTokens" = some f) (hfn : Tryz.pinned.checked.prog.funcs[f]? = some fn) :
    true = Tryz.pinned.checked.prog.looks [] ∧ ∀ (j : Nat) t, fn.params[j]? = some t → Tryz.pinned.checked.prog.wantsStandIn t = false := by
  obtain rfl : f = 5 := Option.some.inj ((show Tryz.prog.funcNamed "pub-gunnysack/laws.FnExtTokens" = some 5 by kernel_rfl).symm.trans hf) |>.symm
  obtain rfl : fn = Tryz.f5 := (Option.some.inj (Tryz.func5.symm.trans hfn)).symm
  refine ⟨by kernel_rfl, fun j t ht => ?_⟩
  rw [Tryz.params5] at ht
  have hm : t ∈ [34, 31] := by simpa using Array.mem_of_getElem? ht
  have hall : ([34, 31].all fun u => !Tryz.prog.wantsStandIn u) = true := by kernel_rfl
  exact (show Tryz.prog.wantsStandIn t = false by simpa using List.all_eq_true.1 hall t hm)

/-- THE STATEMENT. -/
theorem tokens_card : Rows.FnExtTokensCardSaid :=
  Claim7.holds_tied_plain_at .later [] _ _ _ _ tokens_holds (fun _ h => by cases h) (by kernel_rfl) (fun _ h => by cases h) fnExtTokens_row_tie rfl ⟨rfl, rfl⟩ (by kernel_rfl) rfl tokens_plain (by kernel_rfl)
#print axioms tokens_card
end Go.Proofs.YtdabllkphibfmaaGreatDoor
