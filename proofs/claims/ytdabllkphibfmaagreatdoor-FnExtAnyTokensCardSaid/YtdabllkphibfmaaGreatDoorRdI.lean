/- ExtNumber of the reference, walked. -/
import Derived.Test.YtdabllkphibfmaaGreatDoorRdH
import Derived.Deep.CutBlock
import Derived.BigQuiet
import Derived.Deep.RegionLaw
namespace Go.Proofs.YtdabllkphibfmaaGreatDoor
open Go Go.RowKit
set_option linter.unusedSimpArgs false
set_option linter.unusedVariables false

/-- A test of one byte at i: 'i < len(s) && s[i] == k', in the walk's spelling. -/
theorem tst_t {s : ByteArray} {i : Nat} {k : UInt8} (h : headIs s i k = true) : ∃ hlt : i < s.size, s[i]'hlt = k := by
  rcases Nat.lt_or_ge i s.size with h1 | h1
  · rw [headIs_lt h1] at h
    exact ⟨h1, by simpa using h⟩
  · rw [headIs_ge (by omega)] at h; cases h
theorem tst_f {s : ByteArray} {i : Nat} {k : UInt8} (h : headIs s i k = false) (hlt : i < s.size) : s[i]'hlt ≠ k := by
  rw [headIs_lt hlt] at h
  simpa using h

theorem size82 : (Tryz.prog.info? 82).map (·.size) = some 8 := by kernel_rfl

/-- A whole variable is stored, as one step of a region that draws. -/
theorem step_store_row {P : Program} {ops : Array Oper} {o : Oper} {a : Act} {w : World} {K : Act → World → Prop} {Q : Exit → Act → World → Prop} {E : Prop} (hg : o.guard = none) (ty : TypeId) (x y : Operand) (ho : o.op = .store ty x y)
    (g : Nat) (cells : Array Value) (hx : a.eval x = .pointer (some ⟨g, 0, none⟩)) (hy : a.eval y = .agg cells)
    (t : TypeId) (old : Array Value) (hgw : w.heap[g]? = some (.cells old t (0, 0))) (hi : (P.info? ty).map (·.size) = some cells.size)
    (hold : old.size = cells.size) (h1 : cells.all (·.oneCell') = true)
    (hK : K (a.put o.dst undef) (w.setRow g cells)) : if Region.wanted o (yielded ops a.tmps) = true then Oper.wp P o a w K Q else E := by
  have hw : Region.wanted o (yielded ops a.tmps) = true := by simp [Region.wanted, hg]
  rw [if_pos hw]
  exact wp_store_row ty x y ho g cells hx hy t old hgw hi hold h1 hK

/-- The byte at i begins an exponent. -/
def expAt (s : ByteArray) (i : Nat) : Bool := match s.data.toList.drop i with | [] => false | c :: _ => isExp c
theorem expAt_lt {s : ByteArray} {i : Nat} (h : i < s.size) : expAt s i = isExp (s[i]'h) := by
  unfold expAt
  rw [str_drop s i h]
theorem expAt_ge {s : ByteArray} {i : Nat} (h : ¬ i < s.size) : expAt s i = false := by
  unfold expAt
  rw [List.drop_of_length_le (by show s.size ≤ i; omega)]
theorem drop_ge {s : ByteArray} {i : Nat} (h : ¬ i < s.size) : s.data.toList.drop i = [] := List.drop_of_length_le (by show s.size ≤ i; omega)
theorem drop_lt {s : ByteArray} {i : Nat} (h : i < s.size) : (s.data.toList.drop i).isEmpty = false := by rw [str_drop s i h]; rfl
theorem isExp_cases (c : UInt8) : (c = 101 ∧ isExp c = true) ∨ (c ≠ 101 ∧ c = 69 ∧ isExp c = true) ∨ (c ≠ 101 ∧ c ≠ 69 ∧ isExp c = false) := by
  unfold isExp
  by_cases h1 : c = 101
  · exact .inl ⟨h1, decide_eq_true (.inl h1)⟩
  · by_cases h2 : c = 69
    · exact .inr (.inl ⟨h1, h2, decide_eq_true (.inr h2)⟩)
    · exact .inr (.inr ⟨h1, h2, decide_eq_false (by rintro (h | h); exact h1 h; exact h2 h)⟩)

theorem NumW.below {B : Nat} {s : ByteArray} {w : World} {i : Nat} {wx w' : World} (h : NumW B s w i wx) (hb : Below wx.heap.size wx w') : NumW B s w i w' :=
  ⟨(hb.block _ (lt_of_heap h.s0)).trans h.s0, (hb.block _ (lt_of_heap h.r0)).trans h.r0, (hb.block _ (lt_of_heap h.i0)).trans h.i0, h.bl.trans (hb.mono (by have := lt_of_heap h.s0; omega)), h.le⟩

/-- The cells of the result. -/
structure ResC (g : Nat) (wx : World) : Prop where
  r0 : wx.cell? ⟨g, 0, none⟩ = some (.int .i64 0)
  r1 : wx.cell? ⟨g, 1, none⟩ = some (.string ⟨#[]⟩)
  r2 : wx.cell? ⟨g, 2, none⟩ = some (.string ⟨#[]⟩)
  r3 : wx.cell? ⟨g, 3, none⟩ = some (.int .i64 0)
  r4 : wx.cell? ⟨g, 4, none⟩ = some (.int .u64 0)
  r5 : wx.cell? ⟨g, 5, none⟩ = some (.int .u64 0)
  r6 : wx.cell? ⟨g, 6, none⟩ = some (.slice none 0 0)
  r7 : wx.cell? ⟨g, 7, none⟩ = some (.slice none 0 0)
  fr : ∀ o, wx.frozen? ⟨g, o, none⟩ = false
theorem NumW.res {B : Nat} {s : ByteArray} {w : World} {i : Nat} {wx : World} (h : NumW B s w i wx) : ResC (B + 1) wx := by
  have h0 := h.r0
  exact ⟨by simp [World.cell?, h0, zeroVal], by simp [World.cell?, h0, zeroVal], by simp [World.cell?, h0, zeroVal], by simp [World.cell?, h0, zeroVal], by simp [World.cell?, h0, zeroVal], by simp [World.cell?, h0, zeroVal], by simp [World.cell?, h0, zeroVal], by simp [World.cell?, h0, zeroVal], fun o => by simp [World.frozen?, h0]⟩

theorem NumW.drew {B : Nat} {s : ByteArray} {w : World} {i : Nat} {wx : World} (h : NumW B s w i wx) : NumW B s w i wx.drew := ⟨h.s0, h.r0, h.i0, ⟨h.bl.os, h.bl.tape, h.bl.output, h.bl.size, h.bl.block⟩, h.le⟩

/-- What a float's text stands for. -/
def fltTV (pf : PF) (txt : List UInt8) : Option TV := match pf txt with | some (some b) => some (.f64 b) | _ => none

theorem exTV_flt (pf : PF) {txt : List UInt8} {x : Bool} (h : exNum txt = some x) (hi : x = true → okInt (Lib.parseIntB 64 txt) = none) : exTV pf txt = fltTV pf txt := by
  unfold exTV
  rw [h]
  cases x with
  | true => simp only [if_true, hi rfl]; rfl
  | false => rfl
theorem exTV_i32 (pf : PF) {txt : List UInt8} {v : Int} (h : exNum txt = some true) (hi : okInt (Lib.parseIntB 64 txt) = some v) (h1 : -2147483648 ≤ v) (h2 : v ≤ 2147483647) : exTV pf txt = some (.i32 v) := by
  unfold exTV
  rw [h]
  simp only [if_true, hi]
  rw [if_neg (by omega)]
theorem exTV_i64 (pf : PF) {txt : List UInt8} {v : Int} (h : exNum txt = some true) (hi : okInt (Lib.parseIntB 64 txt) = some v) (h1 : v < -2147483648 ∨ 2147483647 < v) : exTV pf txt = some (.i64 v) := by
  unfold exTV
  rw [h]
  simp only [if_true, hi]
  rw [if_pos h1]

theorem num_i32 {o : Option TV} {v : Int} (ho : o = some (.i32 v)) {B : Nat} {w w' : World} (h : Below B w w') : NumPost o B w (.returned (.tuple #[valV 16 v 0, .bool true])) w' := by
  subst ho
  exact ⟨16, v, 0, true, rfl, ⟨rfl, rfl, rfl⟩, h⟩
theorem num_i64 {o : Option TV} {v : Int} (ho : o = some (.i64 v)) {B : Nat} {w w' : World} (h : Below B w w') : NumPost o B w (.returned (.tuple #[valV 18 v 0, .bool true])) w' := by
  subst ho
  exact ⟨18, v, 0, true, rfl, ⟨rfl, rfl, rfl⟩, h⟩
theorem num_f64 {o : Option TV} {b : Nat} (ho : o = some (.f64 b)) {B : Nat} {w w' : World} (h : Below B w w') : NumPost o B w (.returned (.tuple #[valV 1 0 b, .bool true])) w' := by
  subst ho
  exact ⟨1, 0, b, true, rfl, ⟨rfl, rfl, rfl⟩, h⟩
theorem num_nof {o : Option TV} {b : Nat} (ho : o = none) {B : Nat} {w w' : World} (h : Below B w w') : NumPost o B w (.returned (.tuple #[valV 1 0 b, .bool false])) w' := by
  subst ho
  exact ⟨1, 0, b, false, rfl, rfl, h⟩

theorem results_cell_tmp {P : Program} {fn : Func} {p q : Tmp} {ty : TypeId} (h : fn.results = #[.cell p ty, .tmp q]) (tmps : Array Value) (w : World) (g : Nat) (t : TypeId) (cs : Array Value) (fr : Nat × Nat) (d : TypeDesc)
    (hp : tmps.getD p undef = .pointer (some ⟨g, 0, none⟩)) (hg : w.heap[g]? = some (.cells cs t fr))
    (hu : P.underlying ty = some d) (hd : (match d with | .struct _ | .array _ _ => true | _ => false) = true) (hi : (P.info? ty).map (·.size) = some cs.size) (b : Value) (hb : tmps.getD q undef = b) :
    (results fn tmps).run P w = .ok (.tuple #[.agg cs, b]) w := by
  subst hb
  have hp' : tmps[p]?.getD undef = .pointer (some ⟨g, 0, none⟩) := by simpa using hp
  simp [results, h, hp', asAddr, run_loadVar_row w g t ty cs fr d hg hu hd hi]

def vcells (K N B : Int) : Array Value := #[.int .i64 K, .string ⟨#[]⟩, .string ⟨#[]⟩, .int .i64 N, .int .u64 B, .int .u64 0, .slice none 0 0, .slice none 0 0]

theorem vcells_one (K N B : Int) : (vcells K N B).all (·.oneCell') = true := by simp [vcells, Value.oneCell']

theorem NumW.retRow {B : Nat} {s : ByteArray} {w : World} {i : Nat} {wx : World} (h : NumW B s w i wx) (cs : Array Value) : (wx.setRow (B + 1) cs).heap[B + 1]? = some (.cells cs 82 (0, 0)) ∧ Below B w (wx.setRow (B + 1) cs) :=
  ⟨setRow_heap _ _ _ _ _ _ h.r0, ⟨h.bl.os, h.bl.tape, h.bl.output, by simpa [World.setRow] using h.bl.size, fun k hk => (setRow_other _ _ _ _ (by omega)).trans (h.bl.block k hk)⟩⟩

theorem res_none {o : Option TV} (ho : o = none) {B : Nat} {s : ByteArray} {w w' : World} {i : Nat} (h : NumW B s w i w') : NumPost o B w (.returned (.tuple #[valV 0 0 0, .bool false])) w' := num_none ho h.bl

set_option maxRecDepth 1000000 in
set_option maxHeartbeats 16000000 in
theorem extNumber (pf : PF) (hp : ∀ txt, exNum txt ≠ none → txt.length ≤ 1000000 → pf txt ≠ none) (w0 : World) (hpf : PfC w0 pf) (s : ByteArray) (hl : s.size ≤ 1000000) (w : World) (ho : Old w0 w) :
    Calls Tryz.prog 33 #[.string s] w (NumPost (exTV pf s.data.toList) w.heap.size w) := by
  have hmf : ∀ (fn : Fn) (first cap : Array Value) (w : World), (Instr.makeFunc fn first cap).run Tryz.prog w = .ok (.func fn first cap) w := fun _ _ _ _ => rfl
  obtain ⟨i0, sgb, hS, hi0, hst, hsf⟩ := sgn_of s
  have hi1 : i0 ≤ s.size := hS.le
  have HN0 := Lib.hid (num_start s w)
  have HPF := Lib.hid hpf
  have HO := Lib.hid ho
  have HP := Lib.hid hp
  have HS := Lib.hid hS
  have HI0 := Lib.hid hi0
  have HST := Lib.hid hst
  have HSF := Lib.hid hsf
  clear hpf ho hp hS hi0 hst hsf
  go_enter Tryz.func33, Tryz.ntmps33
  go_upto_region 3 with fail
  clear hmf
  go_cut [23] (fun v wx => v = .bool sgb ∧ NumW w.heap.size s w 0 wx)
  case first =>
    as_aux_lemma =>
    cases hb : sgb with
    | true =>
      obtain ⟨h0, h45⟩ := HST.out hb
      have HB := Lib.hid hb
      clear hb
      go_wp2
      go_meet
      exact ⟨by rw [HB.out], HN0.out⟩
    | false =>
      rcases HSF.out hb with h0 | ⟨h0, h45⟩
      · have h00 : ¬ (0 : Nat) < s.size := by omega
        have hse : decide (s = ByteArray.empty) = true := decide_eq_true (by
          apply ByteArray.ext
          apply Array.eq_empty_of_size_eq_zero
          exact h0)
        have HB := Lib.hid hb
        clear hb
        go_wp2
        go_meet
        exact ⟨by rw [HB.out], HN0.out⟩
      · have n45 : (((s[0]'h0).toNat : Int) == 45) = false := byte_ne' (k := 45) h45
        have hse : decide (s = ByteArray.empty) = false := by
          refine decide_eq_false fun h => ?_
          rw [h] at h0
          exact absurd h0 (by decide)
        have HB := Lib.hid hb
        clear hb h45
        go_wp2
        go_meet
        exact ⟨by rw [HB.out], HN0.out⟩
  case rest =>
   as_aux_lemma =>
    obtain ⟨rfl, hN⟩ := hcut
    obtain ⟨c0, c1, c2⟩ := hN.cells
    have HN := Lib.hid hN
    clear hN HN0
    go_upto_if 23 with fail
    go_cut [] (fun wx => NumW w.heap.size s w i0 wx)
    case first =>
      as_aux_lemma =>
      cases sgb with
      | true =>
        have HI := Lib.hid (show i0 = 1 from HI0.out)
        go_wp2
        go_meet
        rw [HI.out]
        exact HN.out.go 1 (by have := HI.out; omega)
      | false =>
        have HI := Lib.hid (show i0 = 0 from HI0.out)
        go_wp2
        go_meet
        rw [HI.out]
        exact HN.out
    case rest =>
     as_aux_lemma =>
      clear c0 c1 c2 HN HST HSF HI0
      obtain ⟨c0, c1, c2⟩ := hcut.cells
      have HN := Lib.hid hcut
      clear hcut
      go_upto_region 5 with fail
      go_cut [6] (fun v wx => v = .bool (headIs s i0 48) ∧ NumW w.heap.size s w i0 wx)
      case first =>
        as_aux_lemma =>
        by_cases hlt : i0 < s.size
        · have HB := Lib.hid (headIs_lt hlt 48)
          obtain ⟨c, hc⟩ : ∃ c, s[i0]'hlt = c := ⟨_, rfl⟩
          rw [hc] at HB
          have HK := Lib.hid (byte_key c 48)
          go_wp2
          go_meet
          exact ⟨by rw [HB.out, ← HK.out]; rfl, HN.out⟩
        · have HB := Lib.hid (headIs_ge hlt 48)
          go_wp2
          go_meet
          exact ⟨by rw [HB.out], HN.out⟩
      case rest =>
       as_aux_lemma =>
        obtain ⟨rfl, hN⟩ := hcut
        clear c0 c1 c2 HN
        have HN := Lib.hid hN
        clear hN
        obtain ⟨z, hz⟩ : ∃ z, headIs s i0 48 = z := ⟨_, rfl⟩
        rw [hz]
        have HZ := Lib.hid hz
        clear hz
        go_upto_region 7 with (first | (go_at_call 45; refine (digits w.heap.size s w i0 _ HN.out hl).mono ?_; rintro e w2 ⟨j, hij, hdj, hall, rfl, hNj⟩; have HNj := Lib.hid hNj; have HDJ := Lib.hid hdj; have HAL := Lib.hid hall; clear hNj hdj hall))
        clear HN
        have hjs := HNj.out.le
        obtain ⟨bad, hbad⟩ : ∃ bad : Bool, bad = (decide (j = i0) || (z && decide (i0 + 1 < j))) := ⟨_, rfl⟩
        have HBAD := Lib.hid hbad
        clear hbad
        go_cut [46] (fun v wx => v = .bool bad ∧ NumW w.heap.size s w j wx)
        case first =>
          as_aux_lemma =>
          by_cases hji : j = i0
          · have n0 : ((j : Int) - i0 == 0) = true := by simp only [beq_iff_eq]; omega
            have HB := Lib.hid (show bad = true by rw [HBAD.out, decide_eq_true hji]; rfl)
            clear hji
            cases z
            all_goals
              go_wp2
              go_meet
              exact ⟨by rw [HB.out], HNj.out⟩
          · have n0 : ((j : Int) - i0 == 0) = false := by simp only [beq_eq_false_iff_ne, ne_eq]; omega
            cases z with
            | false =>
              have HB := Lib.hid (show bad = false by rw [HBAD.out, decide_eq_false hji]; rfl)
              clear hji
              go_wp2
              go_meet
              exact ⟨by rw [HB.out], HNj.out⟩
            | true =>
              by_cases hgt : i0 + 1 < j
              · have HB := Lib.hid (show bad = true by rw [HBAD.out, decide_eq_true hgt, decide_eq_false hji]; rfl)
                have hg2 : (1 : Int) < (j : Int) - i0 := by omega
                clear hji hgt
                go_wp2
                go_meet
                exact ⟨by rw [HB.out], HNj.out⟩
              · have HB := Lib.hid (show bad = false by rw [HBAD.out, decide_eq_false hgt, decide_eq_false hji]; rfl)
                have hg2 : ¬ (1 : Int) < (j : Int) - i0 := by omega
                clear hji hgt
                go_wp2
                go_meet
                exact ⟨by rw [HB.out], HNj.out⟩
        case rest =>
         as_aux_lemma =>
          obtain ⟨rfl, hN⟩ := hcut
          have HN := Lib.hid hN
          clear hN HNj
          cases hbb : bad with
          | true =>
            have HX : Hid (exTV pf s.data.toList = none) := Lib.hid (by
              have h1 := HBAD.out
              rw [hbb] at h1
              simp only [eq_comm (a := true), Bool.or_eq_true, decide_eq_true_eq, Bool.and_eq_true] at h1
              have h2 : j = i0 ∨ (headIs s i0 48 = true ∧ i0 + 1 < j) := by
                rcases h1 with h1 | h1
                · exact .inl h1
                · exact .inr ⟨HZ.out.trans h1.1, h1.2⟩
              exact exNum_none pf (by rw [HS.out.ex]; exact int_bad hjs hij HDJ.out h2))
            clear hbb
            as_aux_lemma =>
            go_wp2_with (refine wpList_store_row rfl 82 (.tmp 2) (.tmp 47) rfl (w.heap.size + 1) (vcells 0 0 0) rfl rfl 82 zeroVal HN.out.r0 size82 rfl (vcells_one _ _ _) ?_)
            exact bodyPost_ret (results_cell_tmp Tryz.results33 _ _ (w.heap.size + 1) 82 (vcells 0 0 0) (0, 0) _ rfl (HN.out.retRow _).1 Tryz.underlying82 rfl size82 (.bool false) rfl) rfl (num_none HX.out (HN.out.retRow _).2)
          | false =>
            have HX : Hid (exNum s.data.toList = if exFrac (s.data.toList.drop j) then some (s.data.toList.drop j).isEmpty else none) := Lib.hid (by
              have h1 := HBAD.out
              rw [hbb] at h1
              simp only [eq_comm (a := false), Bool.or_eq_false_iff, decide_eq_false_iff_not, Bool.and_eq_false_iff] at h1
              obtain ⟨h2, h3⟩ := h1
              rw [HS.out.ex]
              refine int_good hjs (by omega) HDJ.out (fun hz => ?_)
              have hz2 : z = true := HZ.out.symm.trans hz
              rcases h3 with h3 | h3
              · rw [hz2] at h3; cases h3
              · omega)
            have HIJ : Hid (i0 < j) := Lib.hid (by
              have h1 := HBAD.out
              rw [hbb] at h1
              simp only [eq_comm (a := false), Bool.or_eq_false_iff, decide_eq_false_iff_not, Bool.and_eq_false_iff] at h1
              omega)
            clear hbb HBAD HZ HAL
            as_aux_lemma =>
            obtain ⟨c0, c1, c2⟩ := HN.out.cells
            go_upto_region 10 with fail
            go_cut [58] (fun v wx => v = .bool (headIs s j 46) ∧ NumW w.heap.size s w j wx)
            case first =>
              as_aux_lemma =>
              by_cases hlt : j < s.size
              · have HB := Lib.hid (headIs_lt hlt 46)
                obtain ⟨c, hc⟩ : ∃ c, s[j]'hlt = c := ⟨_, rfl⟩
                rw [hc] at HB
                have HK := Lib.hid (byte_key c 46)
                go_wp2
                go_meet
                exact ⟨by rw [HB.out, ← HK.out]; rfl, HN.out⟩
              · have HB := Lib.hid (headIs_ge hlt 46)
                go_wp2
                go_meet
                exact ⟨by rw [HB.out], HN.out⟩
            case rest =>
             as_aux_lemma =>
              obtain ⟨rfl, hN2⟩ := hcut
              clear c0 c1 c2 HN
              have HN := Lib.hid hN2
              clear hN2
              obtain ⟨pt, hpt⟩ : ∃ pt, headIs s j 46 = pt := ⟨_, rfl⟩
              rw [hpt]
              have HPT := Lib.hid hpt
              clear hpt
              go_upto_if 58 with fail
              go_cut [] (fun wx => Aside (∃ i2, NumW w.heap.size s w i2 wx ∧ exFrac (s.data.toList.drop j) = exExp (s.data.toList.drop i2)))
              case first =>
                as_aux_lemma =>
                cases pt with
                | false =>
                  go_wp2
                  go_meet
                  exact ⟨j, HN.out, frac_else HPT.out⟩
                | true =>
                  obtain ⟨hlt, _⟩ := tst_t HPT.out
                  have HN1 := Lib.hid (HN.out.go (j + 1) hlt)
                  obtain ⟨c0, c1, c2⟩ := HN.out.cells
                  go_upto_if 63 with (first | (go_at_call 45; refine (digits w.heap.size s w (j + 1) _ HN1.out hl).mono ?_; rintro e w2 ⟨k, hik, hdk, hall, rfl, hNk⟩; have HNk := Lib.hid hNk; have HDk := Lib.hid hdk; clear hNk hdk hall))
                  clear c0 c1 c2 HN HN1
                  have hks := HNk.out.le
                  by_cases hkj : k = j + 1
                  · have n0 : ((k : Int) - ((j + 1 : Nat) : Int) == 0) = true := by simp only [beq_iff_eq]; omega
                    have HX2 := Lib.hid (show exTV pf s.data.toList = none from exNum_none pf (by rw [HX.out, frac_none HPT.out hkj HDk.out]; rfl))
                    clear hkj
                    as_aux_lemma =>
                    go_wp2_with (refine wpList_store_row rfl 82 (.tmp 2) (.tmp 64) rfl (w.heap.size + 1) (vcells 0 0 0) rfl rfl 82 zeroVal HNk.out.r0 size82 rfl (vcells_one _ _ _) ?_)
                    exact bodyPost_ret (results_cell_tmp Tryz.results33 _ _ (w.heap.size + 1) 82 (vcells 0 0 0) (0, 0) _ rfl (HNk.out.retRow _).1 Tryz.underlying82 rfl size82 (.bool false) rfl) rfl (num_none HX2.out (HNk.out.retRow _).2)
                  · have n0 : ((k : Int) - ((j + 1 : Nat) : Int) == 0) = false := by simp only [beq_eq_false_iff_ne, ne_eq]; omega
                    have HX2 := Lib.hid (frac_some HPT.out (by omega) hks HDk.out)
                    clear hkj
                    as_aux_lemma =>
                    go_wp2
                    go_meet
                    exact ⟨k, HNk.out, HX2.out⟩
              case rest =>
               as_aux_lemma =>
                obtain ⟨i2, hN2, hfr⟩ := hcut.out
                clear hcut HN
                have HN := Lib.hid hN2
                rw [hfr] at HX
                clear hN2 hfr
                obtain ⟨c0, c1, c2⟩ := HN.out.cells
                have hi2 := HN.out.le
                obtain ⟨eb, heb⟩ : ∃ eb, expAt s i2 = eb := ⟨_, rfl⟩
                have HEB := Lib.hid heb
                clear heb
                go_upto_region 14 with fail
                go_cut [80] (fun v wx => v = .bool eb ∧ NumW w.heap.size s w i2 wx)
                case first =>
                  as_aux_lemma =>
                  by_cases hlt : i2 < s.size
                  · have HB := Lib.hid (HEB.out.symm.trans (expAt_lt hlt))
                    obtain ⟨c, hc⟩ : ∃ c, s[i2]'hlt = c := ⟨_, rfl⟩
                    rw [hc] at HB
                    rcases isExp_cases c with ⟨h1, h2⟩ | ⟨h1, h3, h2⟩ | ⟨h1, h3, h2⟩
                    · have HC := Lib.hid (HB.out.trans h2)
                      clear h2
                      subst h1
                      go_wp2
                      go_meet
                      exact ⟨by rw [HC.out], HN.out⟩
                    · have HC := Lib.hid (HB.out.trans h2)
                      clear h2 h1
                      subst h3
                      go_wp2
                      go_meet
                      exact ⟨by rw [HC.out], HN.out⟩
                    · have HC := Lib.hid (HB.out.trans h2)
                      have n1 : ((c.toNat : Int) == 101) = false := byte_ne' (k := 101) h1
                      have n2 : ((c.toNat : Int) == 69) = false := byte_ne' (k := 69) h3
                      clear h2 h1 h3
                      go_wp2
                      go_meet
                      exact ⟨by rw [HC.out], HN.out⟩
                  · have HC := Lib.hid (HEB.out.symm.trans (expAt_ge hlt))
                    go_wp2
                    go_meet
                    exact ⟨by rw [HC.out], HN.out⟩
                case rest =>
                 as_aux_lemma =>
                  obtain ⟨rfl, hN2⟩ := hcut
                  clear c0 c1 c2 HN
                  have HN := Lib.hid hN2
                  clear hN2
                  go_upto_if 80 with fail
                  go_cut [] (fun wx => Aside (∃ i3, NumW w.heap.size s w i3 wx ∧ exExp (s.data.toList.drop i2) = (s.data.toList.drop i3).isEmpty))
                  case first =>
                    as_aux_lemma =>
                    cases eb with
                    | false =>
                      have HE : Hid (exExp (s.data.toList.drop i2) = (s.data.toList.drop i2).isEmpty) := Lib.hid (by
                        by_cases hlt : i2 < s.size
                        · rw [drop_lt hlt]
                          exact exp_else hlt ((expAt_lt hlt).symm.trans HEB.out)
                        · rw [drop_ge hlt]
                          rfl)
                      go_wp2
                      go_meet
                      exact ⟨i2, HN.out, HE.out⟩
                    | true =>
                      have hlt : i2 < s.size := by
                        rcases Nat.lt_or_ge i2 s.size with h1 | h1
                        · exact h1
                        · have := HEB.out; rw [expAt_ge (by omega)] at this; cases this
                      have HEX : Hid (isExp (s[i2]'hlt) = true) := Lib.hid ((expAt_lt hlt).symm.trans HEB.out)
                      obtain ⟨p, hp⟩ : ∃ p, p = i2 + 1 := ⟨_, rfl⟩
                      have HPP := Lib.hid hp
                      have HN1 : Hid (∀ wx, NumW w.heap.size s w i2 wx → NumW w.heap.size s w p (wx.setCell ⟨w.heap.size + 1 + 1, 0, none⟩ (.int .i64 ((i2 : Int) + 1)))) := Lib.hid (fun wx h => by
                        have := h.go p (by omega)
                        rw [hp] at this ⊢
                        exact this)
                      have hps : p ≤ s.size := by omega
                      clear hp
                      obtain ⟨sb, hsb⟩ : ∃ sb, sgnExp s p = sb := ⟨_, rfl⟩
                      have HSB := Lib.hid hsb
                      clear hsb
                      obtain ⟨c0, c1, c2⟩ := HN.out.cells
                      go_upto_region 16 with fail
                      go_cut [98] (fun v wx => v = .bool sb ∧ NumW w.heap.size s w p wx)
                      case first =>
                        as_aux_lemma =>
                        rw [show ((i2 : Int) + 1) = ((p : Nat) : Int) by have := HPP.out; omega]
                        have HNP := Lib.hid (HN.out.go p hps)
                        clear HN1 c0 c1 c2
                        generalize World.setCell _ ⟨w.heap.size + 1 + 1, 0, none⟩ (.int .i64 (p : Nat)) = W at HNP ⊢
                        obtain ⟨c0, c1, c2⟩ := HNP.out.cells
                        by_cases hpl : p < s.size
                        · have HB : Hid (sb = ((s[p]'hpl == 43) || (s[p]'hpl == 45))) := Lib.hid (by
                            rw [← HSB.out]
                            unfold sgnExp
                            rw [headIs_lt hpl, headIs_lt hpl])
                          obtain ⟨c, hc⟩ : ∃ c, s[p]'hpl = c := ⟨_, rfl⟩
                          rw [hc] at HB
                          by_cases h1 : c = 43
                          · have HC := Lib.hid (show sb = true by rw [HB.out, h1]; rfl)
                            subst h1
                            as_aux_lemma =>
                            go_wp2
                            go_meet
                            exact ⟨by rw [HC.out], HNP.out⟩
                          · have n1 : ((c.toNat : Int) == 43) = false := byte_ne' (k := 43) h1
                            by_cases h2 : c = 45
                            · have HC := Lib.hid (show sb = true by rw [HB.out, h2]; rfl)
                              subst h2
                              clear h1
                              as_aux_lemma =>
                              go_wp2
                              go_meet
                              exact ⟨by rw [HC.out], HNP.out⟩
                            · have n2 : ((c.toNat : Int) == 45) = false := byte_ne' (k := 45) h2
                              have HC := Lib.hid (show sb = false by rw [HB.out, beq_eq_false_iff_ne.2 h1, beq_eq_false_iff_ne.2 h2]; rfl)
                              clear h1 h2
                              as_aux_lemma =>
                              go_wp2
                              go_meet
                              exact ⟨by rw [HC.out], HNP.out⟩
                        · have HC : Hid (sb = false) := Lib.hid (by
                            rw [← HSB.out]
                            unfold sgnExp
                            rw [headIs_ge hpl, headIs_ge hpl]
                            rfl)
                          as_aux_lemma =>
                          go_wp2
                          go_meet
                          exact ⟨by rw [HC.out], HNP.out⟩
                      case rest =>
                       as_aux_lemma =>
                        obtain ⟨rfl, hN3⟩ := hcut
                        clear c0 c1 c2 HN1
                        have HN3 := Lib.hid hN3
                        clear hN3
                        obtain ⟨m, hm⟩ : ∃ m, m = if sgnExp s (i2 + 1) then i2 + 1 + 1 else i2 + 1 := ⟨_, rfl⟩
                        have HM := Lib.hid hm
                        have hm2 : m = if sb then p + 1 else p := by rw [hm, ← HPP.out, HSB.out]
                        have HM2 := Lib.hid hm2
                        clear hm hm2
                        go_upto_if 98 with fail
                        go_cut [] (fun wx => NumW w.heap.size s w m wx)
                        case first =>
                          as_aux_lemma =>
                          obtain ⟨c0, c1, c2⟩ := HN3.out.cells
                          cases sb with
                          | false =>
                            have HMM := Lib.hid (show m = p from HM2.out)
                            go_wp2
                            go_meet
                            rw [HMM.out]
                            exact HN3.out
                          | true =>
                            have HMM := Lib.hid (show m = p + 1 from HM2.out)
                            have HPL : Hid (p + 1 ≤ s.size) := Lib.hid (by
                              have h := HSB.out
                              unfold sgnExp at h
                              rcases Nat.lt_or_ge p s.size with h1 | h1
                              · exact h1
                              · rw [headIs_ge (by omega), headIs_ge (by omega)] at h; cases h)
                            go_wp2
                            go_meet
                            rw [HMM.out]
                            exact HN3.out.go (p + 1) HPL.out
                        case rest =>
                         as_aux_lemma =>
                          have HN4 := Lib.hid hcut
                          clear hcut HN3
                          go_upto_if 103 with (first | (go_at_call 45; refine (digits w.heap.size s w m _ HN4.out hl).mono ?_; rintro e w2 ⟨n, hin, hdn, hall, rfl, hNn⟩; have HNn := Lib.hid hNn; have HDn := Lib.hid hdn; clear hNn hdn hall))
                          have hns := HNn.out.le
                          have HEE := Lib.hid (exp_e hlt HEX.out m HM.out n hin hns HDn.out)
                          by_cases hnm : n = m
                          · have n0 : ((n : Int) - (m : Nat) == 0) = true := by simp only [beq_iff_eq]; omega
                            have HX2 := Lib.hid (show exTV pf s.data.toList = none from exNum_none pf (by rw [HX.out, HEE.out, if_pos hnm]; rfl))
                            clear hnm
                            as_aux_lemma =>
                            go_wp2_with (refine wpList_store_row rfl 82 (.tmp 2) (.tmp 104) rfl (w.heap.size + 1) (vcells 0 0 0) rfl rfl 82 zeroVal HNn.out.r0 size82 rfl (vcells_one _ _ _) ?_)
                            exact bodyPost_ret (results_cell_tmp Tryz.results33 _ _ (w.heap.size + 1) 82 (vcells 0 0 0) (0, 0) _ rfl (HNn.out.retRow _).1 Tryz.underlying82 rfl size82 (.bool false) rfl) rfl (num_none HX2.out (HNn.out.retRow _).2)
                          · have n0 : ((n : Int) - (m : Nat) == 0) = false := by simp only [beq_eq_false_iff_ne, ne_eq]; omega
                            have HX2 := Lib.hid (HEE.out.trans (if_neg hnm))
                            clear hnm
                            as_aux_lemma =>
                            go_wp2
                            go_meet
                            exact ⟨n, HNn.out, HX2.out⟩
                  case rest =>
                   as_aux_lemma =>
                    obtain ⟨i3, hN3, hex⟩ := hcut.out
                    clear hcut HN
                    have HN := Lib.hid hN3
                    rw [hex] at HX
                    clear hN3 hex
                    obtain ⟨c0, c1, c2⟩ := HN.out.cells
                    have hi3 := HN.out.le
                    by_cases hlt : i3 < s.size
                    · have HX2 := Lib.hid (show exTV pf s.data.toList = none from exNum_none pf (by rw [HX.out, drop_lt hlt]; rfl))
                      as_aux_lemma =>
                      go_wp2_with (refine wpList_store_row rfl 82 (.tmp 2) (.tmp 109) rfl (w.heap.size + 1) (vcells 0 0 0) rfl rfl 82 zeroVal HN.out.r0 size82 rfl (vcells_one _ _ _) ?_)
                      exact bodyPost_ret (results_cell_tmp Tryz.results33 _ _ (w.heap.size + 1) 82 (vcells 0 0 0) (0, 0) _ rfl (HN.out.retRow _).1 Tryz.underlying82 rfl size82 (.bool false) rfl) rfl (num_none HX2.out (HN.out.retRow _).2)
                    · have HX2 : Hid (exNum s.data.toList = some (s.data.toList.drop j).isEmpty) := Lib.hid (by rw [HX.out, drop_ge hlt]; rfl)
                      obtain rfl : i3 = s.size := by omega
                      clear HX hlt
                      go_upto_if 113 with fail
                      go_cut [] (fun wx => Aside (exTV pf s.data.toList = fltTV pf s.data.toList) ∧ NumW w.heap.size s w s.size wx)
                      case first =>
                        as_aux_lemma =>
                        by_cases hjz : j = s.size
                        · have hd0 := dropDig_end (show (s.data.toList.drop i0).dropWhile isDig = [] by rw [← HDJ.out, hjz, drop_end])
                          have hij2 := HIJ.out
                          obtain ⟨neg, t, ht0, hts, hdig, hcase, hok⟩ := sgn_digits HS.out (by omega) hd0
                          have hXX : exNum s.data.toList = some true := by rw [HX2.out, hjz, drop_end]; rfl
                          have h0s : 0 < s.size := by omega
                          have hei := fun W => extInt s h0s neg t ht0 (by
                            rcases hcase with ⟨h1, ⟨h2, h3⟩, h4⟩ | ⟨h1, h2⟩
                            · exact .inl ⟨h1, h3, h4⟩
                            · exact .inr ⟨h1, h2⟩) hdig hl (by omega) W
                          have hj1 : ((j : Int) == (s.size : Nat)) = true := by simp only [beq_iff_eq]; omega
                          clear hd0 hdig hcase
                          cases hv : int64Of neg t.data.toList with
                          | none =>
                            rw [hv] at hei hok
                            have HEI : Hid (∀ W, Calls Tryz.prog 46 #[.string s, .int .i64 64] W fun e w' => (∃ v : Int, e = .returned (.tuple #[.int .i64 v, .bool false])) ∧ W = w') := Lib.hid (fun W => (hei W).mono fun e w' ⟨v, h1, _, h3⟩ => ⟨⟨v, h1⟩, h3⟩)
                            have HEV := Lib.hid (exTV_flt pf hXX (fun _ => hok))
                            clear hei hok hXX hv hjz
                            as_aux_lemma =>
                            go_wp2_with (first | (go_at_call 46; refine (HEI.out _).mono ?_; rintro e w2 ⟨⟨v, rfl⟩, rfl⟩))
                            go_meet
                            exact ⟨HEV.out, HN.out⟩
                          | some v =>
                            rw [hv] at hei hok
                            have HEI : Hid (∀ W, Calls Tryz.prog 46 #[.string s, .int .i64 64] W fun e w' => e = .returned (.tuple #[.int .i64 v, .bool true]) ∧ W = w') := Lib.hid (fun W => (hei W).mono fun e w' ⟨v2, h1, h2, h3⟩ => ⟨by rw [h1, h2 v rfl]; rfl, h3⟩)
                            clear hei hv hjz
                            by_cases h1 : -2147483648 ≤ v
                            · by_cases h2 : v ≤ 2147483647
                              · have HEV := Lib.hid (exTV_i32 pf hXX hok h1 h2)
                                clear hok hXX
                                as_aux_lemma =>
                                go_wp2_with (first | (go_at_call 46; refine (HEI.out _).mono ?_; rintro e w2 ⟨rfl, rfl⟩) | (refine wpList_store_row rfl 82 (.tmp 2) (.tmp 130) rfl (w.heap.size + 1) (vcells 16 v 0) rfl rfl 82 zeroVal HN.out.r0 size82 rfl (vcells_one _ _ _) ?_))
                                exact bodyPost_ret (results_cell_tmp Tryz.results33 _ _ (w.heap.size + 1) 82 (vcells 16 v 0) (0, 0) _ rfl (HN.out.retRow _).1 Tryz.underlying82 rfl size82 (.bool true) rfl) rfl (num_i32 HEV.out (HN.out.retRow _).2)
                              · have HEV := Lib.hid (exTV_i64 pf hXX hok (.inr (by omega)))
                                clear hok hXX
                                as_aux_lemma =>
                                go_wp2_with (first | (go_at_call 46; refine (HEI.out _).mono ?_; rintro e w2 ⟨rfl, rfl⟩) | (refine wpList_store_row rfl 82 (.tmp 2) (.tmp 134) rfl (w.heap.size + 1) (vcells 18 v 0) rfl rfl 82 zeroVal HN.out.r0 size82 rfl (vcells_one _ _ _) ?_))
                                exact bodyPost_ret (results_cell_tmp Tryz.results33 _ _ (w.heap.size + 1) 82 (vcells 18 v 0) (0, 0) _ rfl (HN.out.retRow _).1 Tryz.underlying82 rfl size82 (.bool true) rfl) rfl (num_i64 HEV.out (HN.out.retRow _).2)
                            · have HEV := Lib.hid (exTV_i64 pf hXX hok (.inl (by omega)))
                              clear hok hXX
                              as_aux_lemma =>
                              go_wp2_with (first | (go_at_call 46; refine (HEI.out _).mono ?_; rintro e w2 ⟨rfl, rfl⟩) | (refine wpList_store_row rfl 82 (.tmp 2) (.tmp 134) rfl (w.heap.size + 1) (vcells 18 v 0) rfl rfl 82 zeroVal HN.out.r0 size82 rfl (vcells_one _ _ _) ?_))
                              exact bodyPost_ret (results_cell_tmp Tryz.results33 _ _ (w.heap.size + 1) 82 (vcells 18 v 0) (0, 0) _ rfl (HN.out.retRow _).1 Tryz.underlying82 rfl size82 (.bool true) rfl) rfl (num_i64 HEV.out (HN.out.retRow _).2)
                        · have hj1 : ((j : Int) == (s.size : Nat)) = false := by simp only [beq_eq_false_iff_ne, ne_eq]; omega
                          have HEV := Lib.hid (exTV_flt (x := false) pf (by rw [HX2.out, drop_lt (by omega)]) (fun h => by cases h))
                          clear hjz
                          as_aux_lemma =>
                          go_wp2
                          go_meet
                          exact ⟨HEV.out, HN.out⟩
                      case rest =>
                       as_aux_lemma =>
                        obtain ⟨hev, hN3⟩ := hcut
                        have HEV := Lib.hid hev.out
                        clear c0 c1 c2 HN hev
                        have HN := Lib.hid hN3
                        clear hN3
                        obtain ⟨c0, c1, c2⟩ := HN.out.cells
                        have hsx : (⟨s.data.toList.toArray⟩ : ByteArray) = s := rfl
                        obtain ⟨r, hr⟩ : ∃ r, pf s.data.toList = some r := by
                          cases h : pf s.data.toList with
                          | none => exact absurd h (HP.out _ (by rw [HX2.out]; simp) hl)
                          | some r => exact ⟨r, rfl⟩
                        have HC := Lib.hid (fun W (hW : Old w0 W) => hsx ▸ HPF.out s.data.toList W r hW hr)
                        have h19 := @run_callFunc_extern Tryz.prog 19 _ Extern.MathFloatBits.float64bits Tryz.func19 (by kernel_rfl) (by kernel_rfl) (by kernel_rfl) (by kernel_rfl)
                        have hbits : ∀ (b : Nat) (w : World), (Extern.MathFloatBits.float64bits #[.float .f64 b]).run Tryz.prog w = .ok (.int .u64 b) w := fun _ _ => rfl
                        have HRR := Lib.hid hr
                        clear hr hsx
                        cases r with
                        | none =>
                          have HE2 := Lib.hid (show exTV pf s.data.toList = none by rw [HEV.out]; unfold fltTV; rw [HRR.out])
                          as_aux_lemma =>
                          go_wp2_with (first | (go_at_call 28; refine (HC.out _ (HO.out.below HN.out.bl HO.out.size)).mono ?_; rintro e w2 ⟨⟨b, ev, rfl, ⟨te, ye, rfl⟩⟩, hb2⟩; have HN2 := Lib.hid (HN.out.below hb2); clear hb2))
                          clear c0 c1 c2
                          have HN3 := Lib.hid HN2.out.drew
                          refine wp_region_any (by kernel_rfl) ?_
                          change wpAny _ _ _ _ _ _ _ (World.drew _)
                          refine wpAny_take (i := 0) (v := .float .f64 b) rfl (by kernel_rfl) (by kernel_rfl) (by kernel_rfl) (fun _ _ _ h => h) (Or.inl ⟨by rfl, fun W => by go_simp⟩) ?_
                          refine wpAny_take (i := 3) (v := .iface te ye) rfl (by kernel_rfl) (by kernel_rfl) (by kernel_rfl) (fun _ _ _ h => h) (Or.inl ⟨by rfl, fun W => by go_simp⟩) ?_
                          refine wpAny_take (i := 4) (v := .bool false) rfl (by kernel_rfl) (by kernel_rfl) (by kernel_rfl) (fun _ _ _ h => h) (Or.inl ⟨by rfl, fun W => by go_simp⟩) ?_
                          refine wpAny_ready (rs := [1]) (by kernel_rfl) (by simp) ?_
                          refine AllReady.cons rfl (fun K hK => ?_) AllReady.nil
                          go_simp
                          refine hK _ _ ?_
                          clear hK K
                          refine wpAny_take (i := 2) (v := .agg (vcells 1 0 b)) rfl (by kernel_rfl) (by kernel_rfl) (by kernel_rfl) (fun _ _ _ h => h) (Or.inl ⟨by rfl, fun W => by go_simp; rfl⟩) ?_
                          refine wpAny_ready (rs := [5]) (by kernel_rfl) (by simp) ?_
                          refine AllReady.cons rfl (fun K hK => ?_) AllReady.nil
                          refine step_store_row rfl 82 (.tmp 2) (.tmp 142) rfl (w.heap.size + 1) (vcells 1 0 b) rfl rfl 82 zeroVal HN3.out.r0 size82 rfl (vcells_one _ _ _) ?_
                          refine hK _ _ ?_
                          clear hK K
                          refine wpAny_ready (rs := [6]) (by kernel_rfl) (by simp) ?_
                          refine AllReady.cons rfl (fun K hK => ?_) AllReady.nil
                          go_simp
                          refine hK _ _ ?_
                          clear hK K
                          refine wpAny_done (by kernel_rfl) ?_ _
                          go_wp2
                          exact bodyPost_ret (results_cell_tmp Tryz.results33 _ _ (w.heap.size + 1) 82 (vcells 1 0 b) (0, 0) _ rfl (HN3.out.retRow _).1 Tryz.underlying82 rfl size82 (.bool false) rfl) rfl (num_nof HE2.out (HN3.out.retRow _).2)
                        | some b =>
                          have HE2 := Lib.hid (show exTV pf s.data.toList = some (.f64 b) by rw [HEV.out]; unfold fltTV; rw [HRR.out])
                          as_aux_lemma =>
                          go_wp2_with (first | (go_at_call 28; refine (HC.out _ (HO.out.below HN.out.bl HO.out.size)).mono ?_; rintro e w2 ⟨⟨b', ev, rfl, hm⟩, hb2⟩; obtain ⟨rfl, rfl⟩ := hm; have HN2 := Lib.hid (HN.out.below hb2); clear hb2))
                          clear c0 c1 c2
                          have HN3 := Lib.hid HN2.out.drew
                          refine wp_region_any (by kernel_rfl) ?_
                          change wpAny _ _ _ _ _ _ _ (World.drew _)
                          refine wpAny_take (i := 0) (v := .float .f64 b') rfl (by kernel_rfl) (by kernel_rfl) (by kernel_rfl) (fun _ _ _ h => h) (Or.inl ⟨by rfl, fun W => by go_simp⟩) ?_
                          refine wpAny_take (i := 3) (v := .nilIface) rfl (by kernel_rfl) (by kernel_rfl) (by kernel_rfl) (fun _ _ _ h => h) (Or.inl ⟨by rfl, fun W => by go_simp⟩) ?_
                          refine wpAny_take (i := 4) (v := .bool true) rfl (by kernel_rfl) (by kernel_rfl) (by kernel_rfl) (fun _ _ _ h => h) (Or.inl ⟨by rfl, fun W => by go_simp⟩) ?_
                          refine wpAny_ready (rs := [1]) (by kernel_rfl) (by simp) ?_
                          refine AllReady.cons rfl (fun K hK => ?_) AllReady.nil
                          go_simp
                          refine hK _ _ ?_
                          clear hK K
                          refine wpAny_take (i := 2) (v := .agg (vcells 1 0 b')) rfl (by kernel_rfl) (by kernel_rfl) (by kernel_rfl) (fun _ _ _ h => h) (Or.inl ⟨by rfl, fun W => by go_simp; rfl⟩) ?_
                          refine wpAny_ready (rs := [5]) (by kernel_rfl) (by simp) ?_
                          refine AllReady.cons rfl (fun K hK => ?_) AllReady.nil
                          refine step_store_row rfl 82 (.tmp 2) (.tmp 142) rfl (w.heap.size + 1) (vcells 1 0 b') rfl rfl 82 zeroVal HN3.out.r0 size82 rfl (vcells_one _ _ _) ?_
                          refine hK _ _ ?_
                          clear hK K
                          refine wpAny_ready (rs := [6]) (by kernel_rfl) (by simp) ?_
                          refine AllReady.cons rfl (fun K hK => ?_) AllReady.nil
                          go_simp
                          refine hK _ _ ?_
                          clear hK K
                          refine wpAny_done (by kernel_rfl) ?_ _
                          go_wp2
                          exact bodyPost_ret (results_cell_tmp Tryz.results33 _ _ (w.heap.size + 1) 82 (vcells 1 0 b') (0, 0) _ rfl (HN3.out.retRow _).1 Tryz.underlying82 rfl size82 (.bool true) rfl) rfl (num_f64 HE2.out (HN3.out.retRow _).2)

end Go.Proofs.YtdabllkphibfmaaGreatDoor
