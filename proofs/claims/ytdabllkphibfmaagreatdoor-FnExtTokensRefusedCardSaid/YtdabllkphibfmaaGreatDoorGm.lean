/- ExtFloatOf at a number with a point: what ParseFloat tells. -/
import Derived.Test.YtdabllkphibfmaaGreatDoorGl
import Derived.Test.YtdabllkphibfmaaGreatDoorGf
import Derived.Test.YtdabllkphibfmaaGreatDoorGk
import Derived.Lib.LaidU8
import Derived.Test.YtdabllkphibfmaaGreatDoorPFnExtTokensx7
namespace Go.Proofs.YtdabllkphibfmaaGreatDoor
open Go Go.RowKit
set_option linter.unusedSimpArgs false
set_option linter.unusedVariables false

theorem bytes_row (s : ByteArray) (w : World) : Row (Lib.bytesWorld w 5 s) w.heap.size s.data.toList := by
  refine ⟨_, _, Lib.bytesWorld_at_new w 5 s, ?_⟩
  have e : s.data.toList.length = s.size := rfl
  simp only [Lib.bytesCells, Array.toList_append, Array.toList_map]
  rw [List.take_append_of_le_length (by simp)]
  rw [List.take_of_length_le (by simp)]
  rfl

set_option maxHeartbeats 4000000 in
/-- decLower of what has no great letters. -/
theorem decLower_id (s : ByteArray) (hs : ∀ i (hi : i < s.size), ((s[i]'hi).toNat : Int) < 65) (hl : s.size ≤ 1000000) (w : World) :
    Calls Tryz.prog 25 #[.string s] w fun e w' => e = .returned (.string s) ∧ Below w.heap.size w w' := by
  have hconv := Lib.run_convert_string_bytes (P := Tryz.prog) w 9 31 5 s Tryz.underlying9 Tryz.underlying31 Tryz.underlying5
  have hrow := bytes_row s w
  have hcell : ∀ i (hi : i < s.size), (Lib.bytesWorld w 5 s).cell? ⟨w.heap.size, i, none⟩ = some (.int .u8 ((s[i]'hi).toNat : Int)) := fun i hi => hrow.cell i (by simpa using hi)
  have hback := run_convert_bytes_back (P := Tryz.prog) (Lib.bytesWorld w 5 s) 31 9 5 ⟨w.heap.size, 0, none⟩ (grownCap w s.size 0 5) s.data.toList Tryz.underlying31 Tryz.underlying5 Tryz.underlying9 (fun j hj => by
    have e : (⟨w.heap.size, 0, none⟩ : Addr).add j = ⟨w.heap.size, j, none⟩ := by simp [Addr.add]; omega
    rw [e]
    exact hrow.cell j hj)
  have hbel : Below w.heap.size w (Lib.bytesWorld w 5 s) := ⟨rfl, rfl, rfl, by rw [Lib.bytesWorld_size]; omega, fun k hk => Lib.bytesWorld_at_old w 5 s k hk⟩
  have HC := Lib.hid hcell
  have HS := Lib.hid hs
  have HB := Lib.hid hbel
  have hlen : s.data.toList.length = s.size := rfl
  rw [hlen] at hback
  clear hrow hcell hs hbel hlen
  go_enter Tryz.func25, Tryz.ntmps25
  go_wp2
  go_loop [10] (fun i => ∃ k : Nat, k ≤ s.size ∧ i = .int .i64 (k : Nat)) (fun i => s.size - (intOf i).toNat)
  case atStart => exact ⟨0, by omega, rfl⟩
  case round =>
    obtain ⟨k, hk, rfl⟩ := hrel
    by_cases hlt : k < s.size
    · have hc := HC.out k hlt
      have hd := HS.out k hlt
      have hnd : ¬ ((65 : Int) ≤ (s[k]'hlt).toNat) := by omega
      clear hd
      go_wp2
      go_round
      case rel => exact ⟨k + 1, by omega, by go_num⟩
      case measure => simp [intOf]; omega
    · go_wp2
      go_ret
      exact ⟨rfl, HB.out⟩

theorem not_word (s : ByteArray) (hn : 0 < s.size) (h : ((s[0]'hn).toNat : Int) < 65) (c : UInt8) (r : List UInt8) (hc : 65 ≤ c.toNat) : (s.toList == c :: r) = false := by
  rw [ByteArray.toList_eq, Bool.eq_false_iff]
  intro he
  rw [beq_iff_eq] at he
  have h0 := str_drop s 0 hn
  rw [List.drop_zero, he] at h0
  injection h0 with h1 _
  rw [← h1] at h
  omega

theorem not_nil (s : ByteArray) (hn : 0 < s.size) : ¬ s.toList = [] := by
  intro he
  rw [ByteArray.toList_eq] at he
  have h0 := str_drop s 0 hn
  rw [List.drop_zero, he] at h0
  cases h0

set_option maxRecDepth 100000 in
set_option maxHeartbeats 4000000 in
theorem extFloatOf (s : ByteArray) (hn1 : 1 < s.size) (hn : 0 < s.size) (h43 : s[0]'hn ≠ 43) (hs : ∀ i (hi : i < s.size), ((s[i]'hi).toNat : Int) < 65) (hl : s.size ≤ 1000000) (w0 : World) (pf : PF) (hpf : PfC w0 pf) (b : Nat) (hb : pf s.data.toList = some (some b)) (w : World) (ho : Old w0 w) :
    Calls Tryz.prog 14 #[.string s] w fun e w' => e = .returned (.tuple #[.int .u64 b, .bool true]) ∧ Below w.heap.size w w' := by
  have h19 := @run_callFunc_extern Tryz.prog 19 _ Extern.MathFloatBits.float64bits Tryz.func19 (by kernel_rfl) (by kernel_rfl) (by kernel_rfl) (by kernel_rfl)
  have h19b := bits64 b
  have hse : decide (s = ByteArray.empty) = false := by
    refine decide_eq_false fun h => ?_
    rw [h] at hn
    exact absurd hn (by decide)
  have hnl := not_nil s hn
  by_cases h45 : s[0]'hn = 45
  · have hx0 : 0 < (s.extract 1 s.size).size := by simp [ByteArray.size_extract]; omega
    have hxs : ∀ i (hi : i < (s.extract 1 s.size).size), (((s.extract 1 s.size)[i]'hi).toNat : Int) < 65 := by
      intro i hi
      have hi' : i + 1 < s.size := by simp [ByteArray.size_extract] at hi; omega
      have e : (s.extract 1 s.size)[i]'hi = s[i + 1]'hi' := by
        simp only [ByteArray.getElem_extract]
        congr 1
        omega
      rw [e]
      exact hs (i + 1) hi'
    have HD := Lib.hid (decLower_id (s.extract 1 s.size) hxs (by simp [ByteArray.size_extract]; omega))
    have HP := Lib.hid (fun W (hW : Old w0 W) => hpf s.data.toList W _ hW hb)
    have HO := Lib.hid ho
    have w1 := not_word (s.extract 1 s.size) hx0 (hxs 0 hx0) 105 [110, 102] (by decide)
    have w2 := not_word (s.extract 1 s.size) hx0 (hxs 0 hx0) 105 [110, 102, 105, 110, 105, 116, 121] (by decide)
    have w3 := not_word (s.extract 1 s.size) hx0 (hxs 0 hx0) 110 [97, 110] (by decide)
    have hd1 : 1 < (s.size : Int) := by omega
    have hnb : (!s.toList.isEmpty) = true := by
      cases hx : s.toList with
      | nil => exact absurd hx hnl
      | cons _ _ => rfl
    clear hs hpf hb ho hxs h43 hx0 hn1
    go_enter Tryz.func14, Tryz.ntmps14
    go_wp2_with (first | (go_at_call 25; refine (HD.out _).mono ?_; rintro e w1 ⟨rfl, hb1⟩; have HB1 := Lib.hid hb1; clear hb1) | (go_at_call 28; refine (HP.out _ (HO.out.below HB1.out HO.out.size)).mono ?_; rintro e w2 ⟨⟨b', ev, rfl, hm⟩, hb2⟩; obtain ⟨rfl, rfl⟩ := hm; have HB2 := Lib.hid hb2; clear hb2))
    go_quiet (fail)
    go_wp2
    go_ret2
    exact ⟨rfl, below_n (HB1.out.trans (HB2.out.mono HB1.out.size)) _⟩
  · have n45 : (((s[0]'hn).toNat : Int) == 45) = false := byte_ne' h45
    have HD := Lib.hid (decLower_id s hs hl)
    have HP := Lib.hid (fun W (hW : Old w0 W) => hpf s.data.toList W _ hW hb)
    have HO := Lib.hid ho
    have w1 := not_word s hn (hs 0 hn) 105 [110, 102] (by decide)
    have w2 := not_word s hn (hs 0 hn) 105 [110, 102, 105, 110, 105, 116, 121] (by decide)
    have w3 := not_word s hn (hs 0 hn) 110 [97, 110] (by decide)
    clear hs hpf hb ho h45
    · have n43 : (((s[0]'hn).toNat : Int) == 43) = false := byte_ne' h43
      clear h43
      go_enter Tryz.func14, Tryz.ntmps14
      go_wp2_with (first | (go_at_call 25; refine (HD.out _).mono ?_; rintro e w1 ⟨rfl, hb1⟩; have HB1 := Lib.hid hb1; clear hb1) | (go_at_call 28; refine (HP.out _ (HO.out.below HB1.out HO.out.size)).mono ?_; rintro e w2 ⟨⟨b', ev, rfl, hm⟩, hb2⟩; obtain ⟨rfl, rfl⟩ := hm; have HB2 := Lib.hid hb2; clear hb2))
      go_quiet (fail)
      go_wp2
      go_ret2
      exact ⟨rfl, below_n (HB1.out.trans (HB2.out.mono HB1.out.size)) _⟩

end Go.Proofs.YtdabllkphibfmaaGreatDoor

/- What the rows' listed tables give a walk: ParseFloat's variables. -/
namespace Go.Proofs.YtdabllkphibfmaaGreatDoor
open Go Go.ChangeShapes Go.WideShapes Go.ChangeAt Go.RowKit

theorem gOpt : Tryz.prog.globalNamed "internal/strconv.optimize" = some 7 := by kernel_rfl
theorem gInfo : Tryz.prog.globalNamed "internal/strconv.float64info" = some 8 := by kernel_rfl
theorem gTab : Tryz.prog.globalNamed "internal/strconv.float64pow10" = some 14 := by kernel_rfl
theorem gOptType : (Tryz.prog.globals[7]?).map (·.type) = some 4 := by kernel_rfl
theorem gInfoType : (Tryz.prog.globals[8]?).map (·.type) = some 179 := by kernel_rfl
theorem gTabType : (Tryz.prog.globals[14]?).map (·.type) = some 220 := by kernel_rfl
theorem cells62 : Tryz.prog.cellsOf 62 = 1 := by kernel_rfl
theorem cells70 : Tryz.prog.cellsOf 70 = 1 := by kernel_rfl

theorem tab_data : (Rows.laid_internal_strconv_float64pow10 : DataW Unit) = .slice ((List.range 23).map fun i => .lit (.float .f64 (p10 i))) [] := by kernel_rfl

theorem bool_of_trod {enc : TypeId × Value → Unit} {W : World} {fuel : Nat} {cs : List Value} {b : Bool} {p : List MemPlace} (h : DataW.trod enc Tryz.prog W 0 (fun _ => true) false fuel 4 cs = some (.lit (.bool b), p)) : cs = [.bool b] := by
  obtain ⟨b', h1, h2⟩ := DataW.trod_bool Tryz.underlying4 h
  simp only [Prod.mk.injEq, DataW.lit.injEq, Lit.bool.injEq] at h2
  rw [h1, h2.1]

theorem trod_float {H : Type} {enc : TypeId × Value → H} {P : Program} {W : World} {base : Nat} {sp : Nat → Bool} {held : Bool} {fuel : Nat} {t : TypeId} {k : FloatKind} {cs : List Value} {x : DataW H × List MemPlace} (ht : P.underlying t = some (.float k))
    (h : DataW.trod enc P W base sp held fuel t cs = some x) : ∃ b, cs = [.float k b] ∧ x = (.lit (.float k b), []) := by
  cases fuel with
  | zero => simp [DataW.trod] at h
  | succ n =>
    unfold DataW.trod at h
    rw [ht] at h
    split at h <;> simp_all

theorem opt_of_reads {W : World} (h : Lib.VarReads Tryz.prog W "internal/strconv.optimize" (.lit (.bool true))) : W.cell? ⟨7, 0, none⟩ = some (.bool true) := by
  obtain ⟨g, t, cs, fuel, p, hg, hty, hvar, hd⟩ := h
  obtain rfl := Option.some.inj (gOpt.symm.trans hg)
  obtain rfl := Option.some.inj (gOptType.symm.trans hty)
  have hcs := bool_of_trod hd
  have := World.var?_cell hg hvar 0
  rw [this, ← Array.getElem?_toList, hcs]
  rfl

theorem info_of_reads {W : World} (h : Lib.VarReads Tryz.prog W "internal/strconv.float64info" Rows.laid_internal_strconv_float64info) : W.cell? ⟨8, 0, none⟩ = some (.int .u64 52) := by
  obtain ⟨g, t, cs, fuel, p, hg, hty, hvar, hd⟩ := h
  obtain rfl := Option.some.inj (gInfo.symm.trans hg)
  obtain rfl := Option.some.inj (gInfoType.symm.trans hty)
  obtain ⟨xs, n, rfl, hx, hl, hxl, hall⟩ := DataW.trod_struct Tryz.underlying179 hd
  have h0 : DataW.trod (fun _ => ()) Tryz.prog W 0 (fun _ => true) false n 70 (List.take (Tryz.prog.cellsOf 70) (List.drop 0 cs.toList)) = xs[0]? := hall 0 _ rfl
  rw [cells70, List.drop_zero] at h0
  have hx1 : xs.map (·.1) = [.lit (.int .u64 52), .lit (.int .u64 11), .lit (.int .i64 (-1023))] := by
    have := congrArg Prod.fst hx
    simpa [Rows.laid_internal_strconv_float64info] using this.symm
  cases xs with
  | nil => simp at hx1
  | cons e xs =>
    simp only [List.getElem?_cons_zero] at h0
    obtain ⟨z, hz, he, _⟩ := DataW.trod_int Tryz.underlying70 h0
    simp only [List.map_cons, List.cons.injEq] at hx1
    have h1 := hx1.1
    rw [he] at h1
    simp only [DataW.lit.injEq, Lit.int.injEq, true_and] at h1
    subst h1
    have h2 := congrArg (·[0]?) hz
    simp only [List.getElem?_take, List.getElem?_cons_zero] at h2
    rw [if_pos (by decide)] at h2
    have := World.var?_cell hg hvar 0
    rw [this, ← Array.getElem?_toList, h2]

theorem tab_of_reads {W : World} (h : Lib.VarReads Tryz.prog W "internal/strconv.float64pow10" Rows.laid_internal_strconv_float64pow10) : ∃ a c, W.cell? ⟨14, 0, none⟩ = some (.slice (some a) 23 c) ∧ ∀ i, i < 23 → W.cell? (a.add i) = some (.float .f64 (p10 i)) := by
  rw [tab_data] at h
  obtain ⟨g, t, cs, fuel, p, hg, hty, hvar, hd⟩ := h
  obtain rfl := Option.some.inj (gTab.symm.trans hg)
  obtain rfl := Option.some.inj (gTabType.symm.trans hty)
  rcases DataW.trod_slice Tryz.underlying220 hd with ⟨_, hx⟩ | ⟨a, len, cap, elems, rest, n, rfl, hcs, hx, _, _, _, hlen, hel, _, _⟩
  · cases hx
  · have hx1 := congrArg Prod.fst hx
    simp only [DataW.slice.injEq] at hx1
    have hl23 : elems.length = 23 := by
      have := congrArg List.length hx1.1
      simpa using this.symm
    have hlen2 : len = 23 := by omega
    subst hlen2
    refine ⟨a, cap, ?_, fun i hi => ?_⟩
    · have := World.var?_cell hg hvar 0
      rw [this, ← Array.getElem?_toList, hcs]
      rfl
    · have h1 := hel i hi
      rw [cells62, Nat.mul_one] at h1
      obtain ⟨e, he⟩ : ∃ e, elems[i]? = some e := ⟨_, List.getElem?_eq_getElem (by omega)⟩
      rw [he] at h1
      obtain ⟨cs1, hc1, hd1⟩ := Option.bind_eq_some_iff.1 h1
      obtain ⟨b, rfl, rfl⟩ := trod_float Tryz.underlying62 hd1
      have h2 : (elems.map (·.1))[i]? = some (DataW.lit (.float .f64 b)) := by rw [List.getElem?_map, he]; rfl
      rw [← hx1.1, List.getElem?_map, List.getElem?_range hi] at h2
      simp only [Option.map_some, Option.some.injEq, DataW.lit.injEq, Lit.float.injEq, true_and] at h2
      rw [h2]
      exact cell_of_cells?_one hc1

theorem flo_of_laid {W : World} {l : List (String × DataW Unit)} (h : laidMet Tryz.prog l W) (h1 : ("internal/strconv.optimize", Rows.laid_internal_strconv_optimize) ∈ l) (h2 : ("internal/strconv.float64info", Rows.laid_internal_strconv_float64info) ∈ l) (h3 : ("internal/strconv.float64pow10", Rows.laid_internal_strconv_float64pow10) ∈ l) : FloVars W :=
  ⟨info_of_reads (Lib.laidMet.reads h h2), opt_of_reads (Lib.laidMet.reads h h1), tab_of_reads (Lib.laidMet.reads h h3)⟩

theorem gSyn : Tryz.prog.globalNamed "strconv.ErrSyntax" = some 4 := by kernel_rfl
theorem gRan : Tryz.prog.globalNamed "strconv.ErrRange" = some 5 := by kernel_rfl
theorem gSynType : (Tryz.prog.globals[4]?).map (·.type) = some 57 := by kernel_rfl
theorem gRanType : (Tryz.prog.globals[5]?).map (·.type) = some 57 := by kernel_rfl

theorem syn_of_laid {W : World} {l r : List (String × DataW Unit)} (n : Nat) (h : laidMet Tryz.prog l W) (hl : l.drop n = ("strconv.ErrSyntax", Rows.laid_strconv_ErrSyntax) :: r) : ∃ t y, W.cell? ⟨4, 0, none⟩ = some (.iface t y) := by
  have h2 := laidMet_drop n h
  rw [hl] at h2
  obtain ⟨a, s, hv, _, _, _⟩ := laid_sentinel h2 gSyn gSynType Tryz.underlying57 row150 Tryz.underlying150 Tryz.underlying152 rfl rfl Tryz.underlying9 cells152 cells9
  exact ⟨_, _, by simpa using World.var?_cell gSyn hv 0⟩
theorem ran_of_laid {W : World} {l r : List (String × DataW Unit)} (n : Nat) (h : laidMet Tryz.prog l W) (hl : l.drop n = ("strconv.ErrRange", Rows.laid_strconv_ErrRange) :: r) : ∃ t y, W.cell? ⟨5, 0, none⟩ = some (.iface t y) := by
  have h2 := laidMet_drop n h
  rw [hl] at h2
  obtain ⟨a, s, hv, _, _, _⟩ := laid_sentinel h2 gRan gRanType Tryz.underlying57 row150 Tryz.underlying150 Tryz.underlying152 rfl rfl Tryz.underlying9 cells152 cells9
  exact ⟨_, _, by simpa using World.var?_cell gRan hv 0⟩

end Go.Proofs.YtdabllkphibfmaaGreatDoor

/- The eight words, quoted. -/
namespace Go.Proofs.YtdabllkphibfmaaGreatDoor
open Go Go.RowKit PFnExtTokens Go.Proofs.YtdabllkphibfmaaGreatDoorW.PrintWords

theorem quo_text : ∀ x ∈ quos, ∃ p', spec_extStyle_text.f 40 [] 0 false false ⟨x.2.toArray⟩ = some (⟨x.1.toArray⟩, p', false, false) := by
  intro x h
  simp only [quos, List.mem_cons, List.not_mem_nil, or_false] at h
  rcases h with rfl | rfl | rfl | rfl | rfl | rfl | rfl | rfl
  all_goals exact ⟨0, by kernel_rfl⟩

/-- ExtQuoted of a word, in no style. -/
theorem quoted_word (x : List UInt8 × List UInt8) (h : x ∈ quos) (w : World) : Calls Tryz.prog 11 #[.string ⟨x.2.toArray⟩, .slice none 0 0] w fun e w' => e = .returned (.string ⟨x.1.toArray⟩) ∧ Below w.heap.size w w' := by
  obtain ⟨p', hp⟩ := quo_text x h
  exact extQuoted 40 [] none 0 _ _ p' false false w ⟨rfl, by simp, fun h => absurd h (by simp)⟩ hp

end Go.Proofs.YtdabllkphibfmaaGreatDoor

/- ExtMarks' text, round for round: plain; and what stands behind a text of tokens and begins none. -/
namespace Go.Proofs.YtdabllkphibfmaaGreatDoor
open Go Go.RowKit
set_option linter.unusedSimpArgs false
set_option linter.unusedVariables false

/-- The rest of a text of marks that begins right with a mark. -/
def Tail : Nat → List Mk → List UInt8 → List Nat → Prop
  | _, [], r, pl => r = [] ∧ pl = []
  | pos, m :: ms, r, pl => ∃ r' pl', r = m.body ++ r' ∧ pl = pos :: pl' ∧ Parts (pos + m.body.length) m.kind ms r' pl'

def GapOk (prev : Nat) : List Mk → List UInt8 → Prop
  | [], _ => True
  | m :: _, t => 6 ≤ prev → m.kind ≠ 1 → m.kind ≠ 3 → m.kind ≠ 5 → t ≠ []

theorem parts_of_tail {pos prev : Nat} {ms : List Mk} {t r : List UInt8} {pl : List Nat} (ht : Blanks t) (hg : GapOk prev ms t) (h : Tail (pos + t.length) ms r pl) : Parts pos prev ms (t ++ r) pl := by
  cases ms with
  | nil =>
    obtain ⟨rfl, rfl⟩ := h
    exact ⟨by simpa using ht, rfl⟩
  | cons m ms =>
    obtain ⟨r', pl', rfl, rfl, h⟩ := h
    exact ⟨t, r', pl', ht, hg, by simp, rfl, h⟩

/-- The kind of the mark ahead of the k-th. -/
def prevKind (ms : List Mk) (k : Nat) : Nat := if k = 0 then 0 else ((ms[k - 1]?).map Mk.kind).getD 0

/-- What is written when k marks are done. -/
def Done (ms : List Mk) (k : Nat) (o : List UInt8) (pls : List Nat) : Prop :=
  ∀ t r pl, Blanks t → GapOk (prevKind ms k) (ms.drop k) t → Tail (o.length + t.length) (ms.drop k) r pl → Parts 0 0 ms (o ++ t ++ r) (pls ++ pl)

theorem done_start (ms : List Mk) (t0 : List UInt8) (h0 : Blanks t0) : Done ms 0 t0 [] := by
  intro t r pl ht hg hT
  have hb : Blanks (t0 ++ t) := by
    intro c hc
    rcases List.mem_append.1 hc with h | h
    · exact h0 c h
    · exact ht c h
  have hp : Parts 0 0 ms ((t0 ++ t) ++ r) pl := by
    refine parts_of_tail hb ?_ (by simpa using hT)
    cases ms with
    | nil => trivial
    | cons m ms => exact fun h => absurd h (by decide)
  simpa using hp

theorem done_step {ms : List Mk} {k : Nat} {o t : List UInt8} {pls : List Nat} (hk : k < ms.length) (h : Done ms k o pls) (ht : Blanks t) (hg : GapOk (prevKind ms k) (ms.drop k) t) :
    Done ms (k + 1) (o ++ t ++ (ms[k]'hk).body) (pls ++ [o.length + t.length]) := by
  intro t' r pl ht' hg' hT
  have hd : ms.drop k = ms[k]'hk :: ms.drop (k + 1) := List.drop_eq_getElem_cons hk
  have hp : prevKind ms (k + 1) = (ms[k]'hk).kind := by
    unfold prevKind
    rw [if_neg (by omega), Nat.add_sub_cancel, List.getElem?_eq_getElem hk]
    rfl
  rw [hp] at hg'
  have hP : Parts (o.length + t.length + (ms[k]'hk).body.length) (ms[k]'hk).kind (ms.drop (k + 1)) (t' ++ r) pl := by
    refine parts_of_tail ht' hg' ?_
    have e : (o ++ t ++ (ms[k]'hk).body).length + t'.length = o.length + t.length + (ms[k]'hk).body.length + t'.length := by simp; omega
    rw [← e]
    exact hT
  have := h t ((ms[k]'hk).body ++ (t' ++ r)) ((o.length + t.length) :: pl) ht hg (by rw [hd]; exact ⟨_, _, rfl, rfl, hP⟩)
  simpa using this

theorem done_end {ms : List Mk} {o t : List UInt8} {pls : List Nat} (h : Done ms ms.length o pls) (ht : Blanks t) : Parts 0 0 ms (o ++ t) pls := by
  have := h t [] [] ht (by rw [List.drop_length]; trivial) (by rw [List.drop_length]; exact ⟨rfl, rfl⟩)
  simpa using this

theorem decB_len (n : Int) (h : n.natAbs < 10 ^ 19) : (decB n).length ≤ 20 := by
  have := decN_len n.natAbs 19 h (by decide)
  unfold decB
  split
  · simp; omega
  · omega

theorem body_len {m : Mk} (h : IsMk m) : m.body.length ≤ 40 := by
  cases h with
  | pun k hk => simp
  | i32 n h => have := decB_len n (by omega); simp; omega
  | i64 n h hb => have := decB_len n (by omega); simp; omega
  | dbl n h fr hf => have := decB_len n (by omega); have := (frac_ok hf).1; simp; rcases this with rfl | rfl | rfl | rfl <;> simp <;> omega
  | str x h =>
    have all : ∀ x ∈ quos, x.1.length ≤ 40 := by decide
    exact all x h
  | fls => simp
  | tru => simp
  | nul => simp

end Go.Proofs.YtdabllkphibfmaaGreatDoor
