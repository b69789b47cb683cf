/- Floats as decimals: a row of bytes that grows; fmtEFG's texts. -/
import Derived.Test.YtpkfdbhpmhahaaaGreatDoorFeb
namespace Go.Proofs.YtpkfdbhpmhahaaaGreatDoor
open Go Go.RowKit Go.Lib
set_option linter.unusedSimpArgs false
set_option linter.unusedVariables false

/-- v holds l in a row of one's own; block gb stands, all below B too. -/
structure OB (B gb : Nat) (ob : Obj) (l : List UInt8) (w0 : World) (v : Value) (w : World) : Prop where
  row : w.ownsRow B 5 1 v l.length (byteCells l)
  below : Below B w0 w
  size : B ≤ w.heap.size
  keep : w.heap[gb]? = some ob
  ne : v.ownBlock ≠ some gb

theorem OB.bel {B gb : Nat} {ob : Obj} {l : List UInt8} {w0 w w' : World} {v : Value} (h : OB B gb ob l w0 v w) (hb : Below w.heap.size w w') : OB B gb ob l w0 v w' :=
  ⟨ownsRow_of h.row fun k hk => hb.block k (h.row.lt k hk).2, h.below.trans (hb.mono h.size), Nat.le_trans h.size hb.size, (hb.block gb (lt_of_heap h.keep)).trans h.keep, h.ne⟩

theorem wpList_ob_append {B gb : Nat} {ob : Obj} {l : List UInt8} {w0 w : World} {v : Value} {ops : Array Oper} {rest : List Oper} {o : Oper} {a : Act} {wa : World} {Q : Exit → Act → World → Prop} (h : OB B gb ob l w0 v w) (hb : Below w.heap.size w wa) (hgd : o.guard = none) (s x : Operand)
    (ho : o.op = .call { callee := .builtin .append, args := #[s, x], argTypes := #[23, 23] }) (hs : a.eval s = v) (ad : Addr) (len c : Nat) (l2 : List UInt8) (hx : a.eval x = .slice (some ad) len c) (hlen : l2.length = len)
    (hnews : ∀ j u, (byteCells l2)[j]? = some u → wa.cell? (ad.add j) = some u) (hpos : 0 < l2.length) (hbl : l.length + l2.length ≤ 1000000000)
    (hK : ∀ (g ln cp : Nat) (w1 : World), Hid (OB B gb ob (l ++ l2) w0 (.slice (some ⟨g, 0, none⟩) ln cp) w1) → wpList Tryz.prog ops Q rest (a.put o.dst (.slice (some ⟨g, 0, none⟩) ln cp)) w1) : wpList Tryz.prog ops Q (o :: rest) a wa := by
  subst hlen
  obtain ⟨i0, hi0, hz0, hz1, hz2⟩ := info_parts info5u
  have h' := h.bel hb
  refine wpList_plain hgd fun K hK2 => ?_
  refine wp_append_lies wa s x 23 ho B 5 i0 _ 1 1 Tryz.underlying23 hi0 hz0 hz1 hz2 rfl (by omega) v l.length (byteCells l) hs h'.row ad l2.length c (byteCells l2) hx (by rw [byteCells_length]; omega) hnews (byteCells_oneCell l2) hpos (by unfold maxLen; omega) (by omega) h'.size wa.heap.size rfl ?_
  intro g cap1 w1 hown hgrow hat hlt
  refine hK2 _ _ (hK g _ cap1 w1 (Lib.hid ⟨?_, ?_, ?_, ?_, ?_⟩))
  · have e : byteCells (l ++ l2) = byteCells l ++ byteCells l2 := by simp [byteCells]
    rw [e, List.length_append]
    exact hown
  · exact below_grown h'.below hgrow (fun k hk => (h'.row.lt k hk).1) h'.size
  · exact Nat.le_trans h'.size hgrow.size
  · exact (hgrow.block gb (lt_of_heap h'.keep) (fun e => h.ne e.symm)).trans h'.keep
  · simp only [Value.ownBlock, ne_eq, Option.some.injEq]
    rcases hat with e | e
    · intro e2; subst e2; exact h.ne e
    · have := lt_of_heap h'.keep; omega
theorem wpList_ob_string {B gb : Nat} {ob : Obj} {l : List UInt8} {w0 w : World} {v : Value} {ops : Array Oper} {rest : List Oper} {o : Oper} {a : Act} {Q : Exit → Act → World → Prop} (h : OB B gb ob l w0 v w) (hgd : o.guard = none) (sl x : Operand)
    (ho : o.op = .call { callee := .builtin .append, args := #[sl, x], argTypes := #[23, 9] }) (hs : a.eval sl = v) (s : ByteArray) (hx : a.eval x = .string s) (hl : l.length ≤ 1000000) (hn : s.size ≤ 1000000)
    (hK : ∀ (v' : Value) (w1 : World), Hid (w1.ownsRow B 5 1 v' (l ++ s.data.toList).length (byteCells (l ++ s.data.toList)) ∧ Below B w0 w1) → wpList Tryz.prog ops Q rest (a.put o.dst v') w1) : wpList Tryz.prog ops Q (o :: rest) a w := by
  obtain ⟨i0, hi0, hz0, hz1, hz2⟩ := info_parts info5u
  refine wpList_append_own_string w hgd sl x 23 9 ho B 5 i0 Tryz.underlying23 Tryz.underlying9 hi0 hz0 hz1 hz2 v l.length (byteCells l) hs h.row s hx (by unfold maxLen; omega) (by omega) h.size ?_
  intro v' w1 hown hgrow _
  refine hK v' w1 (Lib.hid ⟨?_, below_grown h.below hgrow (fun k hk => (h.row.lt k hk).1) h.size⟩)
  have e : byteCells (l ++ s.data.toList) = byteCells l ++ strCells s := by simp [byteCells, strCells]
  rw [e, List.length_append]
  exact hown

def expD (x : Nat) : List UInt8 := if x < 10 then [48, UInt8.ofNat (48 + x)] else if x < 100 then [UInt8.ofNat (48 + x / 10), UInt8.ofNat (48 + x % 10)] else [UInt8.ofNat (48 + x / 100), UInt8.ofNat (48 + x / 10 % 10), UInt8.ofNat (48 + x % 10)]
def sgn (neg : Bool) : List UInt8 := if neg then [45] else []
/-- With an exponent. -/
def efgE (ds : List UInt8) (dp : Int) : List UInt8 :=
  [ds.headD 48] ++ (if 1 < ds.length then [46] ++ ds.drop 1 else []) ++ [69] ++ (if ds.length = 0 then [43] ++ expD 0 else if dp - 1 < 0 then [45] ++ expD (1 - dp).toNat else [43] ++ expD (dp - 1).toNat)
/-- Without one. -/
def efgF (ds : List UInt8) (dp : Int) : List UInt8 :=
  if 0 < dp then ds.take dp.toNat ++ List.replicate (dp.toNat - ds.length) 48 ++ (if dp < ds.length then [46] ++ ds.drop dp.toNat else [])
  else [48] ++ (if 0 < ds.length - dp then [46] ++ List.replicate (-dp).toNat 48 ++ ds else [])

theorem head_eq (ds : List UInt8) (N : Nat) (h0 : ¬ N = 0) : ∀ h : N = ds.length, ds[0]'(by omega) = ds.headD 48 := by
  cases ds with
  | nil => intro h; simp at h; omega
  | cons a t => intro h; rfl
/-- The digits stand in the buffer. -/
def BufIs (ob : Obj) (ds : List UInt8) : Prop := ∃ cs : Array Value, ob = .cells cs 198 (0, 0) ∧ ∀ i (h : i < ds.length), cs[i]? = some (.int .u8 ((ds[i]'h).toNat : Int))
theorem BufIs.at {ob : Obj} {ds : List UInt8} (h : BufIs ob ds) {w : World} {gb : Nat} (hk : w.heap[gb]? = some ob) (i : Nat) (hi : i < ds.length) : w.cell? ⟨gb, i, none⟩ = some (.int .u8 ((ds[i]'hi).toNat : Int)) := by
  obtain ⟨cs, rfl, hc⟩ := h
  simp [World.cell?, hk, hc i hi]

/-- What fmtEFG leaves. -/
def EfgPost (B gb : Nat) (ob : Obj) (l : List UInt8) (w0 : World) (e : Ending) (w' : World) : Prop := ∃ g ln cp, e = .returned (.slice (some ⟨g, 0, none⟩) ln cp) ∧ OB B gb ob l w0 (.slice (some ⟨g, 0, none⟩) ln cp) w'

theorem sz5 (W : World) : (sizeOf (Tryz.prog.elem 23)).run Tryz.prog W = .ok 1 W := by kernel_rfl
theorem sl_1N (gb N : Nat) (h1 : 1 < N) (h : N ≤ 30) (W : World) : (Instr.slice 23 (.slice (some ⟨gb, 0, none⟩) 32 32) (some (.int .i64 1)) (some (.int .i64 (N : Int))) none).run Tryz.prog W = .ok (.slice (some ⟨gb, 1, none⟩) (N - 1) 31) W := by
  rw [run_slice_lh W 23 (some ⟨gb, 0, none⟩) 32 32 (by kernel_rfl) .i64 .i64 1 (N : Int) (by omega) (by omega) (by omega), sz5]
  simp only [Result.andThen, sliced, Int.toNat_natCast]
  rfl
theorem sl_0N (gb N : Nat) (h : N ≤ 30) (W : World) : (Instr.slice 23 (.slice (some ⟨gb, 0, none⟩) 32 32) none (some (.int .i64 (N : Int))) none).run Tryz.prog W = .ok (.slice (some ⟨gb, 0, none⟩) N 32) W := by
  rw [run_slice_h W 23 (some ⟨gb, 0, none⟩) 32 32 (by kernel_rfl) .i64 (N : Int) (by omega) (by omega), sz5]
  simp only [Result.andThen, sliced, Int.toNat_natCast]
  rfl
theorem news_buf {ob : Obj} {ds : List UInt8} (h : BufIs ob ds) {w : World} {gb : Nat} (hk : w.heap[gb]? = some ob) (k : Nat) : ∀ j u, (byteCells (ds.drop k))[j]? = some u → w.cell? ((⟨gb, k, none⟩ : Addr).add j) = some u := fun j u hu => by
  rw [byteCells_get] at hu
  obtain ⟨b, hb, rfl⟩ := Option.map_eq_some_iff.1 hu
  obtain ⟨hj, rfl⟩ := List.getElem?_eq_some_iff.1 hb
  have e : (⟨gb, k, none⟩ : Addr).add j = ⟨gb, k + j, none⟩ := by rw [Lib.add_plain]
  rw [e, h.at hk (k + j) (by simp at hj; omega)]
  simp
theorem news_two (w : World) (a b : UInt8) : ∀ j u, (byteCells [a, b])[j]? = some u → (w.alloc (.cells #[.int .u8 (a.toNat : Int), .int .u8 (b.toNat : Int)] 5)).cell? ((⟨w.heap.size, 0, none⟩ : Addr).add j) = some u :=
  World.news_of_block (cs := #[.int .u8 (a.toNat : Int), .int .u8 (b.toNat : Int)]) (t := 5) (fr := (0, 0)) (heap_alloc_new w _)
theorem news_three (w : World) (a b c : UInt8) : ∀ j u, (byteCells [a, b, c])[j]? = some u → (w.alloc (.cells #[.int .u8 (a.toNat : Int), .int .u8 (b.toNat : Int), .int .u8 (c.toNat : Int)] 5)).cell? ((⟨w.heap.size, 0, none⟩ : Addr).add j) = some u :=
  World.news_of_block (cs := #[.int .u8 (a.toNat : Int), .int .u8 (b.toNat : Int), .int .u8 (c.toNat : Int)]) (t := 5) (fr := (0, 0)) (heap_alloc_new w _)
theorem dig8 (x : Nat) (h : x < 10) : ∃ c : UInt8, c = UInt8.ofNat (48 + x) ∧ IntKind.u8.wrap ((x : Nat) : Int) = ((x : Nat) : Int) ∧ IntKind.u8.wrap (((x : Nat) : Int) + 48) = (c.toNat : Int) := by
  refine ⟨_, rfl, wraps_u8 _ (by omega) (by omega), ?_⟩
  rw [wraps_u8 _ (by omega) (by omega)]
  simp
  omega

set_option maxRecDepth 100000 in
set_option maxHeartbeats 4000000 in
theorem fmtE (B gb : Nat) (ob : Obj) (l : List UInt8) (hl : l.length ≤ 1000) (ds : List UInt8) (N : Nat) (hN : N = ds.length) (hNb : N ≤ 30) (dp : Int) (hdp : -1000 ≤ dp ∧ dp ≤ 1000) (hbuf : BufIs ob ds) (hE : dp - 1 < -4 ∨ 6 ≤ dp - 1) (neg : Bool) (g0 ln0 cp0 : Nat) (w0 w : World) (h : OB B gb ob l w0 (.slice (some ⟨g0, 0, none⟩) ln0 cp0) w) :
    Calls Tryz.prog 138 #[.slice (some ⟨g0, 0, none⟩) ln0 cp0, .bool neg, .slice (some ⟨gb, 0, none⟩) 32 32, .int .i64 dp, .int .i64 (N : Int), .int .i64 (N : Int), .int .u8 71, .bool true] w (EfgPost B gb ob (l ++ sgn neg ++ efgE ds dp) w0) := by
  have HO := Lib.hid h
  have HBU := Lib.hid hbuf
  have HNN := Lib.hid hN
  have HE := Lib.hid hE
  clear h hbuf hN hE
  obtain ⟨TX, hTX⟩ : ∃ x, x = l ++ sgn neg ++ efgE ds dp := ⟨_, rfl⟩
  rw [← hTX]
  have HTX := Lib.hid hTX
  clear hTX
  go_enter Tryz.func138, Tryz.ntmps138
  go_upto_region 8 with fail
  go_cut [56] from 50 to 56 (fun v wx => v = .bool true ∧ w = wx)
  case first =>
    by_cases a1 : dp - 1 < -4
    · have f1 : decide (dp - 1 < -4) = true := decide_eq_true a1
      clear a1
      go_wp2
      go_meet
      exact ⟨rfl, rfl⟩
    · have f1 : decide (dp - 1 < -4) = false := decide_eq_false a1
      have f2 : decide ((6 : Int) ≤ dp - 1) = true := decide_eq_true (by have := HE.out; omega)
      clear a1
      go_wp2
      go_meet
      exact ⟨rfl, rfl⟩
  case rest =>
  obtain ⟨rfl, rfl⟩ := hcut
  go_upto_if 78 with fail
  obtain ⟨sg, hsg⟩ : ∃ x, x = sgn neg := ⟨_, rfl⟩
  have hsl : sg.length ≤ 1 := by rw [hsg]; unfold sgn; split <;> simp
  have HSG := Lib.hid hsg
  clear hsg
  go_cut [0] from 79 to 81 (fun v0 wx => ∃ g ln cp, v0 = .slice (some ⟨g, 0, none⟩) ln cp ∧ Hid (OB B gb ob (l ++ sg) w0 v0 wx))
  case first =>
    cases neg with
    | true =>
      go_wp2_with (first | (at_builtin; refine wpList_ob_append HO.out ((Below.refl _ _).alloc (Nat.le_refl _) _) rfl _ _ rfl rfl ⟨_, 0, none⟩ 1 _ [45] rfl rfl (news_one _ 45) (by decide) (by simp; omega) ?_; intro g1 ln1 cp1 w1 ho1; clear HO; have HO := ho1; clear ho1))
      go_meet
      exact ⟨_, _, _, rfl, by rw [HSG.out]; exact HO⟩
    | false =>
      go_wp2
      go_meet
      exact ⟨_, _, _, rfl, by rw [HSG.out]; simp only [sgn, Bool.false_eq_true, if_false, List.append_nil]; exact HO⟩
  case rest =>
  obtain ⟨g1, ln1, cp1, rfl, ho1⟩ := hcut
  clear HO
  have HO := ho1
  clear ho1
  go_upto_if 83 with fail
  obtain ⟨c0, hc0⟩ : ∃ x, x = ds.headD 48 := ⟨_, rfl⟩
  have HC0 := Lib.hid hc0
  clear hc0
  go_cut [19] from 84 to 86 (fun v wx => v = .int .u8 (c0.toNat : Int) ∧ wc = wx)
  case first =>
    by_cases a1 : N = 0
    · have hd : c0 = 48 := by
        have h1 := HNN.out
        have h2 : ds = [] := List.eq_nil_of_length_eq_zero (by omega)
        rw [HC0.out, h2]; rfl
      subst a1
      go_wp2
      go_meet
      exact ⟨by rw [hd]; rfl, rfl⟩
    · have f1 : (((N : Nat) : Int) != 0) = true := by simp; omega
      have hd := HBU.out.at HO.out.keep 0 (by have := HNN.out; omega)
      have he : ds[0]'(by have := HNN.out; omega) = c0 := by
        rw [HC0.out]
        have h1 := HNN.out
        revert h1
        exact head_eq ds N a1
      rw [he] at hd
      clear he a1
      go_wp2
      go_meet
      exact ⟨rfl, rfl⟩
  case rest =>
  obtain ⟨rfl, rfl⟩ := hcut
  go_upto_if 92 with (first | ((with_reducible refine wpList_at (some 90) ?_); refine wpList_ob_append HO.out ((Below.refl _ _).alloc (Nat.le_refl _) _) rfl _ _ rfl rfl ⟨_, 0, none⟩ 1 _ [c0] rfl rfl (news_one _ c0) (by simp only [List.length_append, List.length_cons, List.length_nil]; omega) (by simp only [List.length_append, List.length_cons, List.length_nil]; omega) ?_; intro g1 ln1 cp1 w1 ho1; clear HO; have HO := ho1; clear ho1))
  obtain ⟨md, hmd⟩ : ∃ x, x = (if 1 < ds.length then [46] ++ ds.drop 1 else []) := ⟨_, rfl⟩
  have hml : md.length ≤ 31 := by rw [hmd]; have := HNN.out; split <;> simp; omega
  have HMD := Lib.hid hmd
  clear hmd
  go_cut [0, 20, 21] from 92 to 119 (fun v0 v20 v21 wx => ∃ g ln cp, v0 = .slice (some ⟨g, 0, none⟩) ln cp ∧ Hid (OB B gb ob (l ++ sg ++ [c0] ++ md) w0 v0 wx))
  case first =>
    by_cases a1 : 1 < N
    · have a2 : (1 : Int) < (N : Int) := by omega
      have hmd : md = [46] ++ ds.drop 1 := by rw [HMD.out, if_pos (by have := HNN.out; omega)]
      have HMD2 := Lib.hid hmd
      clear hmd
      go_upto_region 31 with (first | ((with_reducible refine wpList_at (some 95) ?_); refine wpList_ob_append HO.out ((Below.refl _ _).alloc (Nat.le_refl _) _) rfl _ _ rfl rfl ⟨_, 0, none⟩ 1 _ [46] rfl rfl (news_one _ 46) (by simp only [List.length_append, List.length_cons, List.length_nil]; omega) (by simp only [List.length_append, List.length_cons, List.length_nil]; omega) ?_; intro g1 ln1 cp1 w1 ho1; clear HO; have HO := ho1; clear ho1))
      have hsl1 := sl_1N gb N (by omega) hNb
      go_upto_block 1 with (first | ((with_reducible refine wpList_at (some 108) ?_); refine wpList_ob_append HO.out (Below.refl _ _) rfl _ _ rfl rfl ⟨gb, 1, none⟩ _ _ (ds.drop 1) rfl (by simp only [List.length_drop]; have := HNN.out; omega) (news_buf HBU.out HO.out.keep 1) (by simp only [List.length_drop]; have := HNN.out; omega) (by simp only [List.length_append, List.length_cons, List.length_nil, List.length_drop]; have := HNN.out; omega) ?_; intro g1 ln1 cp1 w1 ho1; clear HO; have HO := ho1; clear ho1))
      go_wp2
      go_loopg [0, 114] 0 (fun m v0 v1 wx => Aside (m = 0) ∧ v0 = .slice (some ⟨g1, 0, none⟩) ln1 cp1 ∧ v1 = .int .i64 0 ∧ w1 = wx)
      case atStart => exact ⟨rfl, rfl, rfl, rfl⟩
      case round =>
        obtain ⟨hm, rfl, rfl, rfl⟩ := hrel
        go_wp2
        go_meet
        exact ⟨_, _, _, rfl, by rw [HMD2.out]; simp only [List.append_assoc] at HO ⊢; exact HO⟩
    · have a2 : ¬ (1 : Int) < (N : Int) := by omega
      have hm0 : md = [] := by rw [HMD.out, if_neg (by have := HNN.out; omega)]
      subst hm0
      go_wp2
      go_meet
      exact ⟨_, _, _, rfl, by rw [List.append_nil]; exact HO⟩
  case rest =>
  obtain ⟨g2, ln2, cp2, rfl, ho2⟩ := hcut
  clear HO
  have HO := ho2
  clear ho2
  go_upto_if 127 with (first | ((with_reducible refine wpList_at (some 123) ?_); refine wpList_ob_append HO.out ((Below.refl _ _).alloc (Nat.le_refl _) _) rfl _ _ rfl rfl ⟨_, 0, none⟩ 1 _ [69] rfl rfl (news_one _ 69) (by simp only [List.length_append, List.length_cons, List.length_nil]; omega) (by simp only [List.length_append, List.length_cons, List.length_nil]; omega) ?_; intro g1 ln1 cp1 w1 ho1; clear HO; have HO := ho1; clear ho1))
  obtain ⟨Z, hZ⟩ : ∃ z : Int, z = if ds.length = 0 then 0 else dp - 1 := ⟨_, rfl⟩
  have HZ := Lib.hid hZ
  have hZb : -1010 ≤ Z ∧ Z ≤ 999 := by rw [hZ]; split <;> omega
  clear hZ
  go_cut [22] (fun v wx => v = .int .i64 Z ∧ w1 = wx)
  case first =>
    have hz := HZ.out
    by_cases a1 : N = 0
    · rw [if_pos (by have := HNN.out; omega)] at hz
      subst hz a1
      go_wp2
      go_meet
      exact ⟨rfl, rfl⟩
    · rw [if_neg (by have := HNN.out; omega)] at hz
      subst hz
      go_wp2
      go_meet
      exact ⟨rfl, rfl⟩
  case rest =>
  obtain ⟨rfl, rfl⟩ := hcut
  go_upto_if 129 with fail
  obtain ⟨X, hX⟩ : ∃ x : Nat, x = Z.natAbs := ⟨_, rfl⟩
  obtain ⟨sc, hsc⟩ : ∃ x : UInt8, x = if Z < 0 then 45 else 43 := ⟨_, rfl⟩
  have HX := Lib.hid (And.intro hX hsc)
  have hX1 : X < 1100 := by omega
  clear hX hsc
  go_cut [19, 22] (fun v19 v22 wx => v19 = .int .u8 (sc.toNat : Int) ∧ v22 = .int .i64 (X : Int) ∧ w1 = wx)
  case first =>
    obtain ⟨hx, hs⟩ := HX.out
    by_cases a1 : Z < 0
    · rw [if_pos a1] at hs
      have e1 : -Z = (X : Int) := by omega
      clear hx
      go_wp2
      go_meet
      exact ⟨by rw [hs]; rfl, rfl, rfl⟩
    · rw [if_neg a1] at hs
      have e1 : Z = (X : Int) := by omega
      clear hx
      go_wp2
      go_meet
      exact ⟨by rw [hs]; rfl, rfl, rfl⟩
  case rest =>
  obtain ⟨rfl, rfl, rfl⟩ := hcut
  go_upto_block 3 with (first | ((with_reducible refine wpList_at (some 135) ?_); refine wpList_ob_append HO.out ((Below.refl _ _).alloc (Nat.le_refl _) _) rfl _ _ rfl rfl ⟨_, 0, none⟩ 1 _ [sc] rfl rfl (news_one _ sc) (by simp only [List.length_append, List.length_cons, List.length_nil]; omega) (by simp only [List.length_append, List.length_cons, List.length_nil]; omega) ?_; intro g1 ln1 cp1 w1 ho1; clear HO; have HO := ho1; clear ho1))
  have hfin : TX = l ++ sg ++ [c0] ++ md ++ [69] ++ [sc] ++ expD X := by
    obtain ⟨hx, hs⟩ := HX.out
    have hz := HZ.out
    rw [HTX.out, HSG.out, HC0.out, HMD.out]
    unfold efgE
    simp only [List.append_assoc]
    congr 5
    by_cases b1 : ds.length = 0
    · rw [if_pos b1] at hz ⊢
      subst hz
      rw [hs, hx]
      rfl
    · rw [if_neg b1] at hz ⊢
      rw [hs, hx]
      by_cases b2 : dp - 1 < 0
      · rw [if_pos b2, if_pos (by omega), show Z.natAbs = (1 - dp).toNat by omega]
      · rw [if_neg b2, if_neg (by omega), show Z.natAbs = (dp - 1).toNat by omega]
  have HFIN := Lib.hid hfin
  clear hfin
  by_cases b1 : X < 10
  · obtain ⟨dA, hA, y1, y2⟩ := dig8 X b1
    have hE1 : expD X = [48, dA] := by unfold expD; rw [if_pos b1, hA]
    have HE1 := Lib.hid hE1
    have b1' : (X : Int) < 10 := by omega
    clear hE1 hA
    go_wp2_with (first | ((with_reducible refine wpList_at (some 160) ?_); refine wpList_ob_append HO.out ((Below.refl _ _).alloc (Nat.le_refl _) _) rfl _ _ rfl rfl ⟨_, 0, none⟩ 2 _ [48, dA] rfl rfl (news_two _ 48 dA) (by simp only [List.length_append, List.length_cons, List.length_nil]; omega) (by simp only [List.length_append, List.length_cons, List.length_nil]; omega) ?_; intro g1 ln1 cp1 w1 ho1; clear HO; have HO := ho1; clear ho1))
    go_ret
    exact ⟨_, _, _, rfl, by rw [HFIN.out, HE1.out]; exact HO.out⟩
  · obtain ⟨X1, hX1⟩ : ∃ x, x = X / 10 := ⟨_, rfl⟩
    obtain ⟨X0, hX0⟩ : ∃ x, x = X % 10 := ⟨_, rfl⟩
    have z1 : (X : Int) / 10 = (X1 : Int) := by omega
    have z0 : (X : Int) % 10 = (X0 : Int) := by omega
    have b1' : ¬ (X : Int) < 10 := by omega
    obtain ⟨d0, h0, y1, y2⟩ := dig8 X0 (by omega)
    by_cases b2 : X < 100
    · obtain ⟨d1, h1, y3, y4⟩ := dig8 X1 (by omega)
      have hE1 : expD X = [d1, d0] := by unfold expD; rw [if_neg b1, if_pos b2, h1, h0, hX1, hX0]
      have HE1 := Lib.hid (And.intro hE1 (And.intro hX1 hX0))
      have b2' : (X : Int) < 100 := by omega
      clear hE1 h1 h0 hX1 hX0
      go_wp2_with (first | ((with_reducible refine wpList_at (some 174) ?_); refine wpList_ob_append HO.out ((Below.refl _ _).alloc (Nat.le_refl _) _) rfl _ _ rfl rfl ⟨_, 0, none⟩ 2 _ [d1, d0] rfl rfl (news_two _ d1 d0) (by simp only [List.length_append, List.length_cons, List.length_nil]; omega) (by simp only [List.length_append, List.length_cons, List.length_nil]; omega) ?_; intro g1 ln1 cp1 w1 ho1; clear HO; have HO := ho1; clear ho1))
      go_ret
      exact ⟨_, _, _, rfl, by rw [HFIN.out, HE1.out.1]; exact HO.out⟩
    · obtain ⟨X2, hX2⟩ : ∃ x, x = X / 100 := ⟨_, rfl⟩
      obtain ⟨X3, hX3⟩ : ∃ x, x = X1 % 10 := ⟨_, rfl⟩
      have z2 : (X : Int) / 100 = (X2 : Int) := by omega
      have z3 : (X1 : Int) % 10 = (X3 : Int) := by omega
      obtain ⟨d2, h2, y5, y6⟩ := dig8 X3 (by omega)
      obtain ⟨d3, h3, y7, y8⟩ : ∃ c : UInt8, c = UInt8.ofNat (48 + X2) ∧ IntKind.u8.wrap ((X2 : Nat) : Int) = ((X2 : Nat) : Int) ∧ IntKind.u8.wrap (((X2 : Nat) : Int) + 48) = (c.toNat : Int) := by
        refine ⟨_, rfl, wraps_u8 _ (by omega) (by omega), ?_⟩
        rw [wraps_u8 _ (by omega) (by omega)]
        simp
        omega
      have y9 : IntKind.u8.wrap ((X1 : Nat) : Int) = ((X1 : Nat) : Int) := wraps_u8 _ (by omega) (by omega)
      have hE1 : expD X = [d3, d2, d0] := by unfold expD; rw [if_neg b1, if_neg b2, h3, h2, h0, hX3, hX2, hX1, hX0]
      have HE1 := Lib.hid (And.intro hE1 (And.intro hX1 (And.intro hX0 (And.intro hX2 hX3))))
      have b2' : ¬ (X : Int) < 100 := by omega
      clear hE1 h3 h2 h0 hX1 hX0 hX2 hX3
      go_wp2_with (first | ((with_reducible refine wpList_at (some 151) ?_); refine wpList_ob_append HO.out ((Below.refl _ _).alloc (Nat.le_refl _) _) rfl _ _ rfl rfl ⟨_, 0, none⟩ 3 _ [d3, d2, d0] rfl rfl (news_three _ d3 d2 d0) (by simp only [List.length_append, List.length_cons, List.length_nil]; omega) (by simp only [List.length_append, List.length_cons, List.length_nil]; omega) ?_; intro g1 ln1 cp1 w1 ho1; clear HO; have HO := ho1; clear ho1))
      go_ret
      exact ⟨_, _, _, rfl, by rw [HFIN.out, HE1.out.1]; exact HO.out⟩

end Go.Proofs.YtpkfdbhpmhahaaaGreatDoor
