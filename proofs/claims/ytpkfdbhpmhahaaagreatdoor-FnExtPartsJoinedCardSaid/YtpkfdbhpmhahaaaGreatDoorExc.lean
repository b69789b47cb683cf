/- extCounts: if it says yes, all is small. -/
import Derived.Test.YtpkfdbhpmhahaaaGreatDoorGd
import Derived.Test.YtpkfdbhpmhahaaaGreatDoorGdI
import Derived.Test.YtpkfdbhpmhahaaaGreatDoorGdB
import Derived.Test.YtpkfdbhpmhahaaaGreatDoorGa
import Derived.Laws.RangeAny
import Derived.Lib.OthersKept
import Derived.Laws.Cover2
namespace Go.Proofs.YtpkfdbhpmhahaaaGreatDoor
open Go Go.RowKit
set_option linter.unusedSimpArgs false
set_option linter.unusedVariables false

theorem below_drew' {w w2 : World} (h : Below w.drew.heap.size w.drew w2) : Below w.heap.size w w2 := ⟨h.os, h.tape, h.output, h.size, h.block⟩
/-- What stands around while it counts. -/
structure CS (gl gb : Nat) (A : Array Value) (l : Int) (w W : World) : Prop where
  box : W.heap[gb]? = some (.cells A 26 (0, 0))
  left : W.heap[gl]? = some (.cells #[.int .i64 l] 3 (0, 0))
  grown : w.grownBy W (some gl)
theorem CS.go {gl gb : Nat} {A : Array Value} {l : Int} {w W W2 : World} (h : CS gl gb A l w W) (hb : Below W.heap.size W W2) : CS gl gb A l w W2 :=
  ⟨(hb.block _ (lt_of_heap h.box)).trans h.box, (hb.block _ (lt_of_heap h.left)).trans h.left, ⟨hb.os.trans h.grown.os, hb.tape.trans h.grown.tape, hb.output.trans h.grown.output, Nat.le_trans h.grown.size hb.size, fun k hk hn => (hb.block k (Nat.lt_of_lt_of_le hk h.grown.size)).trans (h.grown.block k hk hn)⟩⟩
theorem CS.sub {gl gb : Nat} {A : Array Value} {l l2 : Int} {w W W2 : World} (h : CS gl gb A l w W) (hg : W.grownBy W2 (some gl)) (hl : W2.heap[gl]? = some (.cells #[.int .i64 l2] 3 (0, 0))) (hne : gb ≠ gl) : CS gl gb A l2 w W2 :=
  ⟨(hg.block gb (lt_of_heap h.box) (fun e => hne (Option.some.inj e))).trans h.box, hl, ⟨hg.os.trans h.grown.os, hg.tape.trans h.grown.tape, hg.output.trans h.grown.output, Nat.le_trans h.grown.size hg.size, fun k hk hn => (hg.block k (Nat.lt_of_lt_of_le hk h.grown.size) hn).trans (h.grown.block k hk hn)⟩⟩

theorem CS.set {gl gb : Nat} {A : Array Value} {l l2 : Int} {w W : World} (h : CS gl gb A l w W) (hne : gb ≠ gl) : CS gl gb A l2 w (W.setCell ⟨gl, 0, none⟩ (.int .i64 l2)) :=
  ⟨(heap_set_ne hne).trans h.box, by rw [heap_set h.left]; rfl, ⟨h.grown.os, h.grown.tape, h.grown.output, by simp [World.setCell]; exact h.grown.size, fun k hk hn => (heap_set_ne (fun e => hn (by rw [e]))).trans (h.grown.block k hk hn)⟩⟩

def CntPost (x : T) (l : Int) (gl : Nat) (w : World) (e : Ending) (w' : World) : Prop :=
  ∃ r : Bool, e = .returned (.bool r) ∧ (∃ l' : Int, w'.heap[gl]? = some (.cells #[.int .i64 l'] 3 (0, 0)) ∧ (r = true → SmallT x ∧ l' = l - x.nodes ∧ 0 ≤ l')) ∧ w.grownBy w' (some gl)
theorem CS.no {gl gb : Nat} {A : Array Value} {l l2 : Int} {w W : World} {x : T} (h : CS gl gb A l w W) : CntPost x l2 gl w (.returned (.bool false)) W := ⟨false, rfl, ⟨l, h.left, fun e => by cases e⟩, h.grown⟩

theorem f64bits16 (b : Nat) (w : World) : (callFunc 16 #[.float .f64 b]).run Tryz.prog w = .ok (.value (.int .u64 (b : Int))) w := by
  have h := @run_callFunc_extern Tryz.prog 16 _ Extern.MathFloatBits.float64bits Tryz.func16 (by kernel_rfl) (by kernel_rfl) (by kernel_rfl) (by kernel_rfl)
  rw [h]
  rfl
theorem f64from15 (b : Int) (w : World) : (callFunc 15 #[.int .u64 b]).run Tryz.prog w = .ok (.value (.float .f64 b.toNat)) w := by
  have h := @run_callFunc_extern Tryz.prog 15 _ Extern.MathFloatBits.float64frombits Tryz.func15 (by kernel_rfl) (by kernel_rfl) (by kernel_rfl) (by kernel_rfl)
  rw [h]
  rfl
theorem nanC : ∃ y : Nat, ∀ w, Calls Tryz.prog 17 #[] w (fun e w' => e = .returned (.float .f64 y) ∧ w' = w) := by
  have hf := f64from15 9221120237041090561
  refine ⟨(9221120237041090561 : Int).toNat, fun w => ?_⟩
  go_enter Tryz.func17, Tryz.ntmps17
  go_wp2
  go_ret
  exact ⟨rfl, rfl⟩

def SmallL (l : List (ByteArray × T)) : Prop := ∀ e ∈ l, e.1.size ≤ 300 ∧ SmallT e.2
theorem nodesL_succ (ks : List (ByteArray × T)) (i : Nat) (hi : i < ks.length) : nodesL (ks.take (i + 1)) = nodesL (ks.take i) + ks[i].2.nodes := by
  induction ks generalizing i with
  | nil => simp at hi
  | cons a r ih =>
    obtain ⟨nm, x⟩ := a
    cases i with
    | zero => simp [nodesL]
    | succ i =>
      have := ih i (by simpa using hi)
      simp only [List.take_succ_cons, nodesL, List.getElem_cons_succ]
      omega

set_option maxRecDepth 100000 in
set_option maxHeartbeats 8000000 in
theorem extCounts (x : T) : ∀ (L : Nat) (v : Value) (deep : Int) (gl : Nat) (l : Int) (w : World), VAt w L x v → L ≤ gl → w.heap[gl]? = some (.cells #[.int .i64 l] 3 (0, 0)) → 0 ≤ l → l ≤ 300 → 0 ≤ deep → deep ≤ 12 → Calls Tryz.prog 8 #[v, .int .i64 deep, .pointer (some ⟨gl, 0, none⟩)] w (CntPost x l gl w) := by
  induction x using T.ind with
  | h K t m n b h bs ks ih =>
  intro L v deep gl l w hv hL hgl hl0 hl1 hd0 hd1
  obtain ⟨X, hX⟩ : ∃ X, X = T.mk K t m n b h bs ks := ⟨_, rfl⟩
  rw [← hX]
  cases hv with
  | mk _ _ _ _ _ _ _ _ ba ka bn bc kn kc g o kb ko C hK hn hb hh ht hm hbn hbl hbc hbs hba hkn hkl hkc hka hks hkt hsub =>
  have HX := Lib.hid (And.intro hX (And.intro hbn (And.intro hkn (And.intro hka (And.intro hks (And.intro hkt (And.intro hsub (And.intro hn (And.intro hb hh)))))))))
  have IH := Lib.hid (And.intro ih hL)
  have hglw := lt_of_heap hgl
  have hcs : CS gl w.heap.size (vcells K t m n b h (.slice ba bn bc) (.slice ka kn kc)) l w (w.alloc (.cells (vcells K t m n b h (.slice ba bn bc) (.slice ka kn kc)) 26)) :=
    ⟨heap_alloc_new _ _, (Below.heap_alloc _ _ _ hglw).trans hgl, World.grownBy_alloc w _ _⟩
  clear hX hbn hkn hka hks hkt hsub hn hb hh ih hL hgl hK hbs hba
  go_enter Tryz.func8, Tryz.ntmps8
  go_upto_region 1 with fail
  generalize w.alloc (.cells (vcells K t m n b h (.slice ba bn bc) (.slice ka kn kc)) 26) = W1 at hcs ⊢
  obtain ⟨s0, sf⟩ := cell1 hcs.left
  have hne : gl ≠ w.heap.size := by omega
  have HCS := Lib.hid hcs
  clear hcs
  go_upto_region 2 with fail
  have hcs2 := HCS.out.set (l2 := l - 1) (Ne.symm hne)
  obtain ⟨l1, hq⟩ : ∃ x, x = l - 1 := ⟨_, rfl⟩
  rw [← hq] at hcs2 ⊢
  have HQ := Lib.hid hq
  have hq1 : -1 ≤ l1 ∧ l1 ≤ 299 := by omega
  clear hq
  generalize W1.setCell ⟨gl, 0, none⟩ (.int .i64 l1) = W2 at hcs2 ⊢
  clear s0 sf HCS
  obtain ⟨s0, sf⟩ := cell1 hcs2.left
  obtain ⟨a0, a1, a2, a3, a4, a5, a6, a7, af⟩ := cells8 hcs2.box
  have HCS := Lib.hid hcs2
  clear hcs2
  go_cut [41] from 17 to 41 (fun v wx => ∃ r : Bool, v = .bool r ∧ Hid (r = false → 0 ≤ l1 ∧ 1 ≤ deep ∧ t.size ≤ 300 ∧ m.size ≤ 300 ∧ bn ≤ 300) ∧ W2 = wx)
  case first =>
    by_cases hA : l1 < 0
    · go_wp2
      go_meet
      exact ⟨true, rfl, Lib.hid (fun e => by cases e), rfl⟩
    by_cases hD : deep = 0
    · subst hD
      go_wp2
      go_meet
      exact ⟨true, rfl, Lib.hid (fun e => by cases e), rfl⟩
    have eD : (deep == 0) = false := beq_eq_false_iff_ne.2 hD
    go_wp2_with (first | (go_at_call 14; refine (extText _ (by assumption) _).mono ?_; rintro e2 w2 ⟨r, rfl, hr, rfl⟩; have HRx := Lib.hid hr; clear hr; cases r))
    all_goals go_meet
    all_goals first | exact ⟨true, rfl, Lib.hid (fun e => by cases e), rfl⟩ | exact ⟨decide ((300 : Int) < (bn : Int)), rfl, Lib.hid (fun e => ⟨by omega, by omega, (show Hid (Le300 t true) by assumption).out rfl, (show Hid (Le300 m true) by assumption).out rfl, by have := of_decide_eq_false e; omega⟩), rfl⟩
  case rest =>
  obtain ⟨r, rfl, hr, rfl⟩ := hcut
  cases r with
  | true =>
    go_wp2
    go_ret
    exact HCS.out.no
  | false =>
  have hsm := hr.out rfl
  have HSM := Lib.hid hsm
  obtain ⟨b1, b2, _⟩ := hsm
  clear hr
  go_upto_block 0 with fail
  go_cut [7, 8] from 42 to 112 (fun v7 v8 wx => Hid (K = 11 → Letters m) ∧ Hid (CS gl w.heap.size (vcells K t m n b h (.slice ba bn bc) (.slice ka kn kc)) l1 w wx))
  case first =>
    by_cases h1 : K = 1
    · subst h1
      have HDR : Hid (W2.drew.heap[w.heap.size]? = some (.cells (vcells 1 t m n b h (.slice ba bn bc) (.slice ka kn kc)) 26 (0, 0))) := Lib.hid HCS.out.box
      have hfb := f64from15 b
      obtain ⟨y, hnan⟩ := nanC
      obtain ⟨FN, hFN⟩ : ∃ FN : Bool, (FloatKind.f64.format.order b.toNat b.toNat != some .eq) = FN := ⟨_, rfl⟩
      go_upto_region 7 with fail
      cases FN with
      | false =>
        refine wp_region_noPanic ?_
        refine wp_region_held_drew (S := fun W => W.heap[w.heap.size]? = some (.cells (vcells 1 t m n b h (.slice ba bn bc) (.slice ka kn kc)) 26 (0, 0))) (by kernel_rfl) (HDR.out) (fun hHeld => ?_)
        refine takeH (i := 0) (some 49) ?vn7 rfl rfl (by kernel_rfl) (by kernel_rfl) (by kernel_rfl) (fun _ _ _ h => h) (by rfl) ?yn8 (by assumption) ?rn9
        case yn8 => intro W hSw; go_simp; all_goals with_reducible rfl
        try simp only [Act.put, List.setIfInBounds_toArray, List.set_cons_zero, List.set_cons_succ]
        refine takeH (i := 1) (some 50) ?vn10 rfl rfl (by kernel_rfl) (by kernel_rfl) (by kernel_rfl) (fun _ _ _ h => h) (by rfl) ?yn11 (by assumption) ?rn12
        case yn11 => intro W hSw; go_simp; all_goals with_reducible rfl
        try simp only [Act.put, List.setIfInBounds_toArray, List.set_cons_zero, List.set_cons_succ]
        refine takeH (i := 2) (some 51) (.bool false) rfl rfl (by kernel_rfl) (by kernel_rfl) (by kernel_rfl) (fun _ _ _ h => h) (by rfl) (fun W hSw => by go_simp; first | done | exact hFN | rw [hFN]) (by assumption) ?_
        try simp only [Act.put, List.setIfInBounds_toArray, List.set_cons_zero, List.set_cons_succ]
        refine takeH (i := 3) (some 52) ?vn13 rfl rfl (by kernel_rfl) (by kernel_rfl) (by kernel_rfl) (fun _ _ _ h => h) (by rfl) ?yn14 (by assumption) ?rn15
        case yn14 => intro W hSw; go_simp; all_goals with_reducible rfl
        try simp only [Act.put, List.setIfInBounds_toArray, List.set_cons_zero, List.set_cons_succ]
        refine takeU (i := 4) (some 53) rfl rfl (by kernel_rfl) (by kernel_rfl) (by kernel_rfl) (fun _ _ _ h => h) (by rfl) (by assumption) ?_
        try simp only [Act.put, List.setIfInBounds_toArray, List.set_cons_zero, List.set_cons_succ]
        refine takeU (i := 5) (some 54) rfl rfl (by kernel_rfl) (by kernel_rfl) (by kernel_rfl) (fun _ _ _ h => h) (by rfl) (by assumption) ?_
        try simp only [Act.put, List.setIfInBounds_toArray, List.set_cons_zero, List.set_cons_succ]
        refine takeU (i := 6) (some 55) rfl rfl (by kernel_rfl) (by kernel_rfl) (by kernel_rfl) (fun _ _ _ h => h) (by rfl) (by assumption) ?_
        try simp only [Act.put, List.setIfInBounds_toArray, List.set_cons_zero, List.set_cons_succ]
        refine takeU (i := 7) (some 56) rfl rfl (by kernel_rfl) (by kernel_rfl) (by kernel_rfl) (fun _ _ _ h => h) (by rfl) (by assumption) ?_
        try simp only [Act.put, List.setIfInBounds_toArray, List.set_cons_zero, List.set_cons_succ]
        refine takeU (i := 8) (some 57) rfl rfl (by kernel_rfl) (by kernel_rfl) (by kernel_rfl) (fun _ _ _ h => h) (by rfl) (by assumption) ?_
        try simp only [Act.put, List.setIfInBounds_toArray, List.set_cons_zero, List.set_cons_succ]
        refine takeH (i := 9) (some 58) ?vn16 rfl rfl (by kernel_rfl) (by kernel_rfl) (by kernel_rfl) (fun _ _ _ h => h) (by rfl) ?yn17 (by assumption) ?rn18
        case yn17 => intro W hSw; go_simp; all_goals with_reducible rfl
        try simp only [Act.put, List.setIfInBounds_toArray, List.set_cons_zero, List.set_cons_succ]
        refine wpAnyH_done (by kernel_rfl) ?_ _
        refine NoPanic.normal ?_
        go_wp2
        go_meet
        exact ⟨Lib.hid (fun e => by cases e), Lib.hid (HCS.out.go (below_drew (Below.refl _ _)))⟩
      | true =>
        refine wp_region_noPanic ?_
        refine wp_region_held_drew (S := fun W => W.heap[w.heap.size]? = some (.cells (vcells 1 t m n b h (.slice ba bn bc) (.slice ka kn kc)) 26 (0, 0))) (by kernel_rfl) (HDR.out) (fun hHeld => ?_)
        refine takeH (i := 0) (some 49) ?vn19 rfl rfl (by kernel_rfl) (by kernel_rfl) (by kernel_rfl) (fun _ _ _ h => h) (by rfl) ?yn20 (by assumption) ?rn21
        case yn20 => intro W hSw; go_simp; all_goals with_reducible rfl
        try simp only [Act.put, List.setIfInBounds_toArray, List.set_cons_zero, List.set_cons_succ]
        refine takeH (i := 1) (some 50) ?vn22 rfl rfl (by kernel_rfl) (by kernel_rfl) (by kernel_rfl) (fun _ _ _ h => h) (by rfl) ?yn23 (by assumption) ?rn24
        case yn23 => intro W hSw; go_simp; all_goals with_reducible rfl
        try simp only [Act.put, List.setIfInBounds_toArray, List.set_cons_zero, List.set_cons_succ]
        refine takeH (i := 2) (some 51) (.bool true) rfl rfl (by kernel_rfl) (by kernel_rfl) (by kernel_rfl) (fun _ _ _ h => h) (by rfl) (fun W hSw => by go_simp; first | done | exact hFN | rw [hFN]) (by assumption) ?_
        try simp only [Act.put, List.setIfInBounds_toArray, List.set_cons_zero, List.set_cons_succ]
        refine takeH (i := 3) (some 52) ?vn25 rfl rfl (by kernel_rfl) (by kernel_rfl) (by kernel_rfl) (fun _ _ _ h => h) (by rfl) ?yn26 (by assumption) ?rn27
        case yn26 => intro W hSw; go_simp; all_goals with_reducible rfl
        try simp only [Act.put, List.setIfInBounds_toArray, List.set_cons_zero, List.set_cons_succ]
        refine takeH (i := 4) (some 53) ?vn28 rfl rfl (by kernel_rfl) (by kernel_rfl) (by kernel_rfl) (fun _ _ _ h => h) (by rfl) ?yn29 (by assumption) ?rn30
        case yn29 => intro W hSw; go_simp; all_goals with_reducible rfl
        try simp only [Act.put, List.setIfInBounds_toArray, List.set_cons_zero, List.set_cons_succ]
        refine takeH (i := 5) (some 54) (.int .u64 b) rfl rfl (by kernel_rfl) (by kernel_rfl) (by kernel_rfl) (fun _ _ _ h => h) (by rfl) (fun W hSw => by have hcl : W.cell? ⟨w.heap.size, 4, none⟩ = some (.int .u64 b) := (by simp only [World.cell?, hSw]; rfl); go_simp) (by assumption) ?_
        try simp only [Act.put, List.setIfInBounds_toArray, List.set_cons_zero, List.set_cons_succ]
        refine wpAnyH_ready (rs := [6]) (by kernel_rfl) (by simp) ?_
        refine (AllReadyH.cons rfl (fun K hK => ?_) AllReadyH.nil)
        go_simp
        refine (hnan _).mono ?_
        rintro e2 w2 ⟨rfl, rfl⟩
        refine hK.out _ _ (HDR.out) (fun hHeld => ?_)
        clear hK K
        try simp only [Act.put, List.setIfInBounds_toArray, List.set_cons_zero, List.set_cons_succ]
        refine takeH (i := 7) (some 56) (.int .u64 (y : Int)) rfl rfl (by kernel_rfl) (by kernel_rfl) (by kernel_rfl) (fun _ _ _ h => h) (by rfl) (fun W hSw => by have hq := f64bits16 y W; go_simp) (by assumption) ?_
        try simp only [Act.put, List.setIfInBounds_toArray, List.set_cons_zero, List.set_cons_succ]
        refine takeH (i := 8) (some 57) ?vn31 rfl rfl (by kernel_rfl) (by kernel_rfl) (by kernel_rfl) (fun _ _ _ h => h) (by rfl) ?yn32 (by assumption) ?rn33
        case yn32 => intro W hSw; go_simp; all_goals with_reducible rfl
        try simp only [Act.put, List.setIfInBounds_toArray, List.set_cons_zero, List.set_cons_succ]
        refine takeH (i := 9) (some 58) ?vn34 rfl rfl (by kernel_rfl) (by kernel_rfl) (by kernel_rfl) (fun _ _ _ h => h) (by rfl) ?yn35 (by assumption) ?rn36
        case yn35 => intro W hSw; go_simp; all_goals with_reducible rfl
        try simp only [Act.put, List.setIfInBounds_toArray, List.set_cons_zero, List.set_cons_succ]
        refine wpAnyH_done (by kernel_rfl) ?_ _
        refine NoPanic.normal ?_
        generalize ((b : Int) != (y : Int)) = QB
        cases QB
        all_goals go_wp2
        all_goals first
          | (go_ret; exact (HCS.out.go (below_drew (Below.refl _ _))).no)
          | (go_meet; exact ⟨Lib.hid (fun e => by cases e), Lib.hid (HCS.out.go (below_drew (Below.refl _ _)))⟩)
    by_cases h12 : K = 12
    · subst h12
      have HDR : Hid (W2.drew.heap[w.heap.size]? = some (.cells (vcells 12 t m n b h (.slice ba bn bc) (.slice ka kn kc)) 26 (0, 0))) := Lib.hid HCS.out.box
      have HLT : Hid (w.heap.size < W2.drew.heap.size) := Lib.hid (lt_of_heap HCS.out.box)
      have ht3 : Hid (t.size ≤ 300) := Lib.hid HSM.out.2.2.1
      clear h1
      go_upto_region 10 with fail
      refine wp_region_noPanic ?_
      refine wp_region_held_drew (S := fun W => W.heap[w.heap.size]? = some (.cells (vcells 12 t m n b h (.slice ba bn bc) (.slice ka kn kc)) 26 (0, 0))) (by kernel_rfl) (HDR.out) (fun hHeld => ?_)
      refine takeH (i := 0) (some 61) ?vm1 rfl rfl (by kernel_rfl) (by kernel_rfl) (by kernel_rfl) (fun _ _ _ h => h) (by rfl) ?ym2 (by assumption) ?rm3
      case ym2 => intro W hSw; go_simp; all_goals with_reducible rfl
      try simp only [Act.put, List.setIfInBounds_toArray, List.set_cons_zero, List.set_cons_succ]
      refine takeH (i := 1) (some 62) (.string t) rfl rfl (by kernel_rfl) (by kernel_rfl) (by kernel_rfl) (fun _ _ _ h => h) (by rfl) (fun W hSw => by have hcl : W.cell? ⟨w.heap.size, 1, none⟩ = some (.string t) := (by simp only [World.cell?, hSw]; rfl); go_simp) (by assumption) ?_
      try simp only [Act.put, List.setIfInBounds_toArray, List.set_cons_zero, List.set_cons_succ]
      refine takeH (i := 3) (some 64) ?vm4 rfl rfl (by kernel_rfl) (by kernel_rfl) (by kernel_rfl) (fun _ _ _ h => h) (by rfl) ?ym5 (by assumption) ?rm6
      case ym5 => intro W hSw; go_simp; all_goals with_reducible rfl
      try simp only [Act.put, List.setIfInBounds_toArray, List.set_cons_zero, List.set_cons_succ]
      refine takeH (i := 4) (some 65) (.string t) rfl rfl (by kernel_rfl) (by kernel_rfl) (by kernel_rfl) (fun _ _ _ h => h) (by rfl) (fun W hSw => by have hcl : W.cell? ⟨w.heap.size, 1, none⟩ = some (.string t) := (by simp only [World.cell?, hSw]; rfl); go_simp) (by assumption) ?_
      try simp only [Act.put, List.setIfInBounds_toArray, List.set_cons_zero, List.set_cons_succ]
      refine takeH (i := 5) (some 66) (.string ((⟨#[34]⟩ : ByteArray) ++ t)) rfl rfl (by kernel_rfl) (by kernel_rfl) (by kernel_rfl) (fun _ _ _ h => h) (by rfl) (fun W hSw => x_cat rfl rfl rfl (by have := ht3.out; show 1 + t.size ≤ _; omega)) (by assumption) ?_
      try simp only [Act.put, List.setIfInBounds_toArray, List.set_cons_zero, List.set_cons_succ]
      refine takeH (i := 6) (some 67) (.string (((⟨#[34]⟩ : ByteArray) ++ t) ++ ⟨#[34]⟩)) rfl rfl (by kernel_rfl) (by kernel_rfl) (by kernel_rfl) (fun _ _ _ h => h) (by rfl) (fun W hSw => x_cat rfl rfl rfl (by have := ht3.out; rw [ByteArray.size_append]; show 1 + t.size + 1 ≤ _; omega)) (by assumption) ?_
      try simp only [Act.put, List.setIfInBounds_toArray, List.set_cons_zero, List.set_cons_succ]
      refine wpAnyH_ready (rs := [2]) (by kernel_rfl) (by simp) ?_
      refine (AllReadyH.cons rfl (fun K hK => ?_) AllReadyH.nil)
      go_simp
      refine (extString t ht3.out true _).mono ?_
      rintro e2 w2 ⟨tx, rfl, hsz, hb2⟩
      have HB2 := Lib.hid (below_drew' hb2)
      have hkp := (hb2.block _ HLT.out).trans HDR.out
      clear hb2
      refine hK.out _ _ (hkp) (fun hHeld => ?_)
      clear hK K
      try simp only [Act.put, List.setIfInBounds_toArray, List.set_cons_zero, List.set_cons_succ]
      refine takeH (i := 7) (some 68) (.bool (decide (tx ≠ (((⟨#[34]⟩ : ByteArray) ++ t) ++ ⟨#[34]⟩)))) rfl rfl (by kernel_rfl) (by kernel_rfl) (by kernel_rfl) (fun _ _ _ h => h) (by rfl) (fun W hSw => x_neqS rfl rfl rfl rfl) (by assumption) ?_
      try simp only [Act.put, List.setIfInBounds_toArray, List.set_cons_zero, List.set_cons_succ]
      refine wpAnyH_done (by kernel_rfl) ?_ _
      refine NoPanic.normal ?_
      generalize decide (tx ≠ (((⟨#[34]⟩ : ByteArray) ++ t) ++ ⟨#[34]⟩)) = QB
      cases QB
      all_goals go_wp2
      all_goals first
        | (go_ret; exact (HCS.out.go HB2.out).no)
        | (go_meet; exact ⟨Lib.hid (fun e => by cases e), Lib.hid (HCS.out.go HB2.out)⟩)
    by_cases h19 : K = 19
    · subst h19
      obtain ⟨hN, hh1⟩ : ∃ x : Nat, h = x := ⟨h.toNat, by have := HX.out.2.2.2.2.2.2.2.2.2; unfold U64 at this; omega⟩
      obtain ⟨bN, hb1⟩ : ∃ x : Nat, b = x := ⟨b.toNat, by have := HX.out.2.2.2.2.2.2.2.2.1; unfold U64 at this; omega⟩
      have hdf := fun W => decFits hN bN (by have := HX.out.2.2.2.2.2.2.2.2.2; unfold U64 at this; omega) (by have := HX.out.2.2.2.2.2.2.2.2.1; unfold U64 at this; omega) W
      rw [← hh1, ← hb1] at hdf
      have HDF := Lib.hid hdf
      clear hdf hh1 hb1 h1 h12
      go_wp2_with (first | (go_at_call 19; refine (HDF.out _).mono ?_; rintro e2 w2 ⟨r, rfl, hr, hb2⟩; have HB2 := Lib.hid hb2; clear hb2 hr; cases r))
      all_goals first
        | (go_ret; exact (HCS.out.go HB2.out).no)
        | (go_meet; exact ⟨Lib.hid (fun e => by cases e), Lib.hid (HCS.out.go HB2.out)⟩)
    by_cases h11 : K = 11
    · subst h11
      have hrg : ∀ t', Tryz.prog.underlying t' = some .string → (Instr.range t' (.string m)).run Tryz.prog W2 = .ok (.pointer (some ⟨W2.heap.size, 0, none⟩)) (W2.iter m 0) := fun t' h => run_range_string W2 t' m h
      have hit0 : (W2.iter m 0).heap[W2.heap.size]? = some (.stringIter m 0) := W2.iter_heap m 0
      have hbl0 : Below W2.heap.size W2 (W2.iter m 0) := (Below.refl _ _).alloc (Nat.le_refl _) _
      clear h1 h12 h19
      go_upto_block 1 with fail
      generalize W2.iter m 0 = W3 at hit0 hbl0 ⊢
      clear hrg
      go_wp2
      go_loopg [8] m.size (fun q v8 wx => Aside (∃ pos, q = m.size - pos ∧ pos ≤ m.size ∧ wx.heap[W2.heap.size]? = some (.stringIter m pos) ∧ Below W2.heap.size W2 wx ∧ ∀ j (hj : j < m.size), j < pos → 97 ≤ (m[j]'hj).toNat ∧ (m[j]'hj).toNat ≤ 122))
      case atStart => exact ⟨0, rfl, by omega, hit0, hbl0, fun j hj h => absurd h (by omega)⟩
      case round =>
        obtain ⟨pos, rfl, hpos, hit, hbl, hlet⟩ := hrel.out
        clear hrel hit0 hbl0 a0 a1 a2 a3 a4 a5 a6 a7 af s0 sf
        have HLET := Lib.hid hlet
        clear hlet
        by_cases hp : pos < m.size
        · have hnx := fun ty => Go.Lib.run_next_any_at (P := Tryz.prog) wr W2.heap.size m pos ty hit hp
          have HIT2 := Lib.hid (Go.Lib.iterAt_heap wr W2.heap.size m pos (pos + (Utf8.decode m pos).2) hit)
          have hbl2 := Go.Lib.below_iterAt hbl (Nat.le_refl _) m (pos + (Utf8.decode m pos).2)
          have HDEC := Lib.hid (decode_ascii m pos hp)
          obtain ⟨c, hc⟩ : ∃ c, c = m[pos]'hp := ⟨_, rfl⟩
          generalize wr.iterAt W2.heap.size m (pos + (Utf8.decode m pos).2) = W4 at hnx HIT2 hbl2
          generalize Utf8.decode m pos = D at hnx HIT2 HDEC
          have hix : ∀ W : World, (Instr.index 9 (.string m) (.int .i64 (pos : Nat))).run Tryz.prog W = .ok (.int .u8 (c.toNat : Int)) W := by
            intro W
            go_simp
          clear hit hbl
          have HBI := Lib.hid (below_drew hbl2)
          have HDR : Hid (W4.drew.heap[w.heap.size]? = some (.cells (vcells 11 t m n b h (.slice ba bn bc) (.slice ka kn kc)) 26 (0, 0))) := Lib.hid ((hbl2.block _ (lt_of_heap HCS.out.box)).trans HCS.out.box)
          have HC := Lib.hid hc
          clear hc hbl2
          go_upto_region 19 with fail
          clear hnx
          by_cases ha : c.toNat < 97
          · have q1 : decide ((c.toNat : Int) < 97) = true := decide_eq_true (by omega)
            refine wp_region_noPanic ?_
            refine wp_region_held_drew (S := fun W => W.heap[w.heap.size]? = some (.cells (vcells 11 t m n b h (.slice ba bn bc) (.slice ka kn kc)) 26 (0, 0))) (by kernel_rfl) (HDR.out) (fun hHeld => ?_)
            refine takeH (i := 0) (some 85) ?voa37 rfl rfl (by kernel_rfl) (by kernel_rfl) (by kernel_rfl) (fun _ _ _ h => h) (by rfl) ?yoa38 (by assumption) ?roa39
            case yoa38 => intro W hSw; go_simp; all_goals with_reducible rfl
            try simp only [Act.put, List.setIfInBounds_toArray, List.set_cons_zero, List.set_cons_succ]
            refine takeH (i := 1) (some 86) (.string m) rfl rfl (by kernel_rfl) (by kernel_rfl) (by kernel_rfl) (fun _ _ _ h => h) (by rfl) (fun W hSw => by have hcl : W.cell? ⟨w.heap.size, 2, none⟩ = some (.string m) := (by simp only [World.cell?, hSw]; rfl); go_simp) (by assumption) ?_
            try simp only [Act.put, List.setIfInBounds_toArray, List.set_cons_zero, List.set_cons_succ]
            refine takeH (i := 2) (some 87) ?voa40 rfl rfl (by kernel_rfl) (by kernel_rfl) (by kernel_rfl) (fun _ _ _ h => h) (by rfl) ?yoa41 (by assumption) ?roa42
            case yoa41 => intro W hSw; go_simp; all_goals with_reducible rfl
            try simp only [Act.put, List.setIfInBounds_toArray, List.set_cons_zero, List.set_cons_succ]
            refine takeH (i := 3) (some 88) (.int .u8 (c.toNat : Int)) rfl rfl (by kernel_rfl) (by kernel_rfl) (by kernel_rfl) (fun _ _ _ h => h) (by rfl) (fun W hSw => by have hq := hix W; go_simp) (by assumption) ?_
            try simp only [Act.put, List.setIfInBounds_toArray, List.set_cons_zero, List.set_cons_succ]
            refine takeH (i := 4) (some 89) (.bool true) rfl rfl (by kernel_rfl) (by kernel_rfl) (by kernel_rfl) (fun _ _ _ h => h) (by rfl) (fun W hSw => by go_simp; first | done | exact q1 | rw [q1]) (by assumption) ?_
            try simp only [Act.put, List.setIfInBounds_toArray, List.set_cons_zero, List.set_cons_succ]
            refine takeH (i := 5) (some 90) ?voa43 rfl rfl (by kernel_rfl) (by kernel_rfl) (by kernel_rfl) (fun _ _ _ h => h) (by rfl) ?yoa44 (by assumption) ?roa45
            case yoa44 => intro W hSw; go_simp; all_goals with_reducible rfl
            try simp only [Act.put, List.setIfInBounds_toArray, List.set_cons_zero, List.set_cons_succ]
            refine takeU (i := 6) (some 91) rfl rfl (by kernel_rfl) (by kernel_rfl) (by kernel_rfl) (fun _ _ _ h => h) (by rfl) (by assumption) ?_
            try simp only [Act.put, List.setIfInBounds_toArray, List.set_cons_zero, List.set_cons_succ]
            refine takeU (i := 7) (some 92) rfl rfl (by kernel_rfl) (by kernel_rfl) (by kernel_rfl) (fun _ _ _ h => h) (by rfl) (by assumption) ?_
            try simp only [Act.put, List.setIfInBounds_toArray, List.set_cons_zero, List.set_cons_succ]
            refine takeU (i := 8) (some 93) rfl rfl (by kernel_rfl) (by kernel_rfl) (by kernel_rfl) (fun _ _ _ h => h) (by rfl) (by assumption) ?_
            try simp only [Act.put, List.setIfInBounds_toArray, List.set_cons_zero, List.set_cons_succ]
            refine takeU (i := 9) (some 94) rfl rfl (by kernel_rfl) (by kernel_rfl) (by kernel_rfl) (fun _ _ _ h => h) (by rfl) (by assumption) ?_
            try simp only [Act.put, List.setIfInBounds_toArray, List.set_cons_zero, List.set_cons_succ]
            refine takeU (i := 10) (some 95) rfl rfl (by kernel_rfl) (by kernel_rfl) (by kernel_rfl) (fun _ _ _ h => h) (by rfl) (by assumption) ?_
            try simp only [Act.put, List.setIfInBounds_toArray, List.set_cons_zero, List.set_cons_succ]
            refine takeH (i := 11) (some 96) ?voa46 rfl rfl (by kernel_rfl) (by kernel_rfl) (by kernel_rfl) (fun _ _ _ h => h) (by rfl) ?yoa47 (by assumption) ?roa48
            case yoa47 => intro W hSw; go_simp; all_goals with_reducible rfl
            try simp only [Act.put, List.setIfInBounds_toArray, List.set_cons_zero, List.set_cons_succ]
            refine takeH (i := 12) (some 97) ?voa49 rfl rfl (by kernel_rfl) (by kernel_rfl) (by kernel_rfl) (fun _ _ _ h => h) (by rfl) ?yoa50 (by assumption) ?roa51
            case yoa50 => intro W hSw; go_simp; all_goals with_reducible rfl
            try simp only [Act.put, List.setIfInBounds_toArray, List.set_cons_zero, List.set_cons_succ]
            refine takeU (i := 13) (some 98) rfl rfl (by kernel_rfl) (by kernel_rfl) (by kernel_rfl) (fun _ _ _ h => h) (by rfl) (by assumption) ?_
            try simp only [Act.put, List.setIfInBounds_toArray, List.set_cons_zero, List.set_cons_succ]
            refine takeU (i := 14) (some 99) rfl rfl (by kernel_rfl) (by kernel_rfl) (by kernel_rfl) (fun _ _ _ h => h) (by rfl) (by assumption) ?_
            try simp only [Act.put, List.setIfInBounds_toArray, List.set_cons_zero, List.set_cons_succ]
            refine takeU (i := 15) (some 100) rfl rfl (by kernel_rfl) (by kernel_rfl) (by kernel_rfl) (fun _ _ _ h => h) (by rfl) (by assumption) ?_
            try simp only [Act.put, List.setIfInBounds_toArray, List.set_cons_zero, List.set_cons_succ]
            refine takeU (i := 16) (some 101) rfl rfl (by kernel_rfl) (by kernel_rfl) (by kernel_rfl) (fun _ _ _ h => h) (by rfl) (by assumption) ?_
            try simp only [Act.put, List.setIfInBounds_toArray, List.set_cons_zero, List.set_cons_succ]
            refine takeU (i := 17) (some 102) rfl rfl (by kernel_rfl) (by kernel_rfl) (by kernel_rfl) (fun _ _ _ h => h) (by rfl) (by assumption) ?_
            try simp only [Act.put, List.setIfInBounds_toArray, List.set_cons_zero, List.set_cons_succ]
            refine takeU (i := 18) (some 103) rfl rfl (by kernel_rfl) (by kernel_rfl) (by kernel_rfl) (fun _ _ _ h => h) (by rfl) (by assumption) ?_
            try simp only [Act.put, List.setIfInBounds_toArray, List.set_cons_zero, List.set_cons_succ]
            refine takeU (i := 19) (some 104) rfl rfl (by kernel_rfl) (by kernel_rfl) (by kernel_rfl) (fun _ _ _ h => h) (by rfl) (by assumption) ?_
            try simp only [Act.put, List.setIfInBounds_toArray, List.set_cons_zero, List.set_cons_succ]
            refine takeU (i := 20) (some 105) rfl rfl (by kernel_rfl) (by kernel_rfl) (by kernel_rfl) (fun _ _ _ h => h) (by rfl) (by assumption) ?_
            try simp only [Act.put, List.setIfInBounds_toArray, List.set_cons_zero, List.set_cons_succ]
            refine takeU (i := 21) (some 106) rfl rfl (by kernel_rfl) (by kernel_rfl) (by kernel_rfl) (fun _ _ _ h => h) (by rfl) (by assumption) ?_
            try simp only [Act.put, List.setIfInBounds_toArray, List.set_cons_zero, List.set_cons_succ]
            refine takeU (i := 22) (some 107) rfl rfl (by kernel_rfl) (by kernel_rfl) (by kernel_rfl) (fun _ _ _ h => h) (by rfl) (by assumption) ?_
            try simp only [Act.put, List.setIfInBounds_toArray, List.set_cons_zero, List.set_cons_succ]
            refine takeU (i := 23) (some 108) rfl rfl (by kernel_rfl) (by kernel_rfl) (by kernel_rfl) (fun _ _ _ h => h) (by rfl) (by assumption) ?_
            try simp only [Act.put, List.setIfInBounds_toArray, List.set_cons_zero, List.set_cons_succ]
            refine takeU (i := 24) (some 109) rfl rfl (by kernel_rfl) (by kernel_rfl) (by kernel_rfl) (fun _ _ _ h => h) (by rfl) (by assumption) ?_
            try simp only [Act.put, List.setIfInBounds_toArray, List.set_cons_zero, List.set_cons_succ]
            refine takeU (i := 25) (some 110) rfl rfl (by kernel_rfl) (by kernel_rfl) (by kernel_rfl) (fun _ _ _ h => h) (by rfl) (by assumption) ?_
            try simp only [Act.put, List.setIfInBounds_toArray, List.set_cons_zero, List.set_cons_succ]
            refine takeU (i := 26) (some 111) rfl rfl (by kernel_rfl) (by kernel_rfl) (by kernel_rfl) (fun _ _ _ h => h) (by rfl) (by assumption) ?_
            try simp only [Act.put, List.setIfInBounds_toArray, List.set_cons_zero, List.set_cons_succ]
            refine takeH (i := 27) (some 112) ?voa52 rfl rfl (by kernel_rfl) (by kernel_rfl) (by kernel_rfl) (fun _ _ _ h => h) (by rfl) ?yoa53 (by assumption) ?roa54
            case yoa53 => intro W hSw; go_simp; all_goals with_reducible rfl
            try simp only [Act.put, List.setIfInBounds_toArray, List.set_cons_zero, List.set_cons_succ]
            refine wpAnyH_done (by kernel_rfl) ?_ _
            refine NoPanic.normal ?_
            go_wp2
            go_ret
            exact (HCS.out.go HBI.out).no
          have q1 : decide ((c.toNat : Int) < 97) = false := decide_eq_false (by omega)
          by_cases hb : 122 < c.toNat
          · have q2 : decide ((122 : Int) < (c.toNat : Int)) = true := decide_eq_true (by omega)
            refine wp_region_noPanic ?_
            refine wp_region_held_drew (S := fun W => W.heap[w.heap.size]? = some (.cells (vcells 11 t m n b h (.slice ba bn bc) (.slice ka kn kc)) 26 (0, 0))) (by kernel_rfl) (HDR.out) (fun hHeld => ?_)
            refine takeH (i := 0) (some 85) ?vob55 rfl rfl (by kernel_rfl) (by kernel_rfl) (by kernel_rfl) (fun _ _ _ h => h) (by rfl) ?yob56 (by assumption) ?rob57
            case yob56 => intro W hSw; go_simp; all_goals with_reducible rfl
            try simp only [Act.put, List.setIfInBounds_toArray, List.set_cons_zero, List.set_cons_succ]
            refine takeH (i := 1) (some 86) (.string m) rfl rfl (by kernel_rfl) (by kernel_rfl) (by kernel_rfl) (fun _ _ _ h => h) (by rfl) (fun W hSw => by have hcl : W.cell? ⟨w.heap.size, 2, none⟩ = some (.string m) := (by simp only [World.cell?, hSw]; rfl); go_simp) (by assumption) ?_
            try simp only [Act.put, List.setIfInBounds_toArray, List.set_cons_zero, List.set_cons_succ]
            refine takeH (i := 2) (some 87) ?vob58 rfl rfl (by kernel_rfl) (by kernel_rfl) (by kernel_rfl) (fun _ _ _ h => h) (by rfl) ?yob59 (by assumption) ?rob60
            case yob59 => intro W hSw; go_simp; all_goals with_reducible rfl
            try simp only [Act.put, List.setIfInBounds_toArray, List.set_cons_zero, List.set_cons_succ]
            refine takeH (i := 3) (some 88) (.int .u8 (c.toNat : Int)) rfl rfl (by kernel_rfl) (by kernel_rfl) (by kernel_rfl) (fun _ _ _ h => h) (by rfl) (fun W hSw => by have hq := hix W; go_simp) (by assumption) ?_
            try simp only [Act.put, List.setIfInBounds_toArray, List.set_cons_zero, List.set_cons_succ]
            refine takeH (i := 4) (some 89) (.bool false) rfl rfl (by kernel_rfl) (by kernel_rfl) (by kernel_rfl) (fun _ _ _ h => h) (by rfl) (fun W hSw => by go_simp; first | done | exact q1 | rw [q1]) (by assumption) ?_
            try simp only [Act.put, List.setIfInBounds_toArray, List.set_cons_zero, List.set_cons_succ]
            refine takeH (i := 5) (some 90) ?vob61 rfl rfl (by kernel_rfl) (by kernel_rfl) (by kernel_rfl) (fun _ _ _ h => h) (by rfl) ?yob62 (by assumption) ?rob63
            case yob62 => intro W hSw; go_simp; all_goals with_reducible rfl
            try simp only [Act.put, List.setIfInBounds_toArray, List.set_cons_zero, List.set_cons_succ]
            refine takeH (i := 6) (some 91) ?vob64 rfl rfl (by kernel_rfl) (by kernel_rfl) (by kernel_rfl) (fun _ _ _ h => h) (by rfl) ?yob65 (by assumption) ?rob66
            case yob65 => intro W hSw; go_simp; all_goals with_reducible rfl
            try simp only [Act.put, List.setIfInBounds_toArray, List.set_cons_zero, List.set_cons_succ]
            refine takeH (i := 7) (some 92) (.string m) rfl rfl (by kernel_rfl) (by kernel_rfl) (by kernel_rfl) (fun _ _ _ h => h) (by rfl) (fun W hSw => by have hcl : W.cell? ⟨w.heap.size, 2, none⟩ = some (.string m) := (by simp only [World.cell?, hSw]; rfl); go_simp) (by assumption) ?_
            try simp only [Act.put, List.setIfInBounds_toArray, List.set_cons_zero, List.set_cons_succ]
            refine takeH (i := 8) (some 93) ?vob67 rfl rfl (by kernel_rfl) (by kernel_rfl) (by kernel_rfl) (fun _ _ _ h => h) (by rfl) ?yob68 (by assumption) ?rob69
            case yob68 => intro W hSw; go_simp; all_goals with_reducible rfl
            try simp only [Act.put, List.setIfInBounds_toArray, List.set_cons_zero, List.set_cons_succ]
            refine takeH (i := 9) (some 94) (.int .u8 (c.toNat : Int)) rfl rfl (by kernel_rfl) (by kernel_rfl) (by kernel_rfl) (fun _ _ _ h => h) (by rfl) (fun W hSw => by have hq := hix W; go_simp) (by assumption) ?_
            try simp only [Act.put, List.setIfInBounds_toArray, List.set_cons_zero, List.set_cons_succ]
            refine takeH (i := 10) (some 95) (.bool true) rfl rfl (by kernel_rfl) (by kernel_rfl) (by kernel_rfl) (fun _ _ _ h => h) (by rfl) (fun W hSw => by go_simp; first | done | exact q2 | rw [q2]) (by assumption) ?_
            try simp only [Act.put, List.setIfInBounds_toArray, List.set_cons_zero, List.set_cons_succ]
            refine takeH (i := 11) (some 96) ?vob70 rfl rfl (by kernel_rfl) (by kernel_rfl) (by kernel_rfl) (fun _ _ _ h => h) (by rfl) ?yob71 (by assumption) ?rob72
            case yob71 => intro W hSw; go_simp; all_goals with_reducible rfl
            try simp only [Act.put, List.setIfInBounds_toArray, List.set_cons_zero, List.set_cons_succ]
            refine takeH (i := 12) (some 97) ?vob73 rfl rfl (by kernel_rfl) (by kernel_rfl) (by kernel_rfl) (fun _ _ _ h => h) (by rfl) ?yob74 (by assumption) ?rob75
            case yob74 => intro W hSw; go_simp; all_goals with_reducible rfl
            try simp only [Act.put, List.setIfInBounds_toArray, List.set_cons_zero, List.set_cons_succ]
            refine takeU (i := 13) (some 98) rfl rfl (by kernel_rfl) (by kernel_rfl) (by kernel_rfl) (fun _ _ _ h => h) (by rfl) (by assumption) ?_
            try simp only [Act.put, List.setIfInBounds_toArray, List.set_cons_zero, List.set_cons_succ]
            refine takeU (i := 14) (some 99) rfl rfl (by kernel_rfl) (by kernel_rfl) (by kernel_rfl) (fun _ _ _ h => h) (by rfl) (by assumption) ?_
            try simp only [Act.put, List.setIfInBounds_toArray, List.set_cons_zero, List.set_cons_succ]
            refine takeU (i := 15) (some 100) rfl rfl (by kernel_rfl) (by kernel_rfl) (by kernel_rfl) (fun _ _ _ h => h) (by rfl) (by assumption) ?_
            try simp only [Act.put, List.setIfInBounds_toArray, List.set_cons_zero, List.set_cons_succ]
            refine takeU (i := 16) (some 101) rfl rfl (by kernel_rfl) (by kernel_rfl) (by kernel_rfl) (fun _ _ _ h => h) (by rfl) (by assumption) ?_
            try simp only [Act.put, List.setIfInBounds_toArray, List.set_cons_zero, List.set_cons_succ]
            refine takeU (i := 17) (some 102) rfl rfl (by kernel_rfl) (by kernel_rfl) (by kernel_rfl) (fun _ _ _ h => h) (by rfl) (by assumption) ?_
            try simp only [Act.put, List.setIfInBounds_toArray, List.set_cons_zero, List.set_cons_succ]
            refine takeU (i := 18) (some 103) rfl rfl (by kernel_rfl) (by kernel_rfl) (by kernel_rfl) (fun _ _ _ h => h) (by rfl) (by assumption) ?_
            try simp only [Act.put, List.setIfInBounds_toArray, List.set_cons_zero, List.set_cons_succ]
            refine takeU (i := 19) (some 104) rfl rfl (by kernel_rfl) (by kernel_rfl) (by kernel_rfl) (fun _ _ _ h => h) (by rfl) (by assumption) ?_
            try simp only [Act.put, List.setIfInBounds_toArray, List.set_cons_zero, List.set_cons_succ]
            refine takeU (i := 20) (some 105) rfl rfl (by kernel_rfl) (by kernel_rfl) (by kernel_rfl) (fun _ _ _ h => h) (by rfl) (by assumption) ?_
            try simp only [Act.put, List.setIfInBounds_toArray, List.set_cons_zero, List.set_cons_succ]
            refine takeU (i := 21) (some 106) rfl rfl (by kernel_rfl) (by kernel_rfl) (by kernel_rfl) (fun _ _ _ h => h) (by rfl) (by assumption) ?_
            try simp only [Act.put, List.setIfInBounds_toArray, List.set_cons_zero, List.set_cons_succ]
            refine takeU (i := 22) (some 107) rfl rfl (by kernel_rfl) (by kernel_rfl) (by kernel_rfl) (fun _ _ _ h => h) (by rfl) (by assumption) ?_
            try simp only [Act.put, List.setIfInBounds_toArray, List.set_cons_zero, List.set_cons_succ]
            refine takeU (i := 23) (some 108) rfl rfl (by kernel_rfl) (by kernel_rfl) (by kernel_rfl) (fun _ _ _ h => h) (by rfl) (by assumption) ?_
            try simp only [Act.put, List.setIfInBounds_toArray, List.set_cons_zero, List.set_cons_succ]
            refine takeU (i := 24) (some 109) rfl rfl (by kernel_rfl) (by kernel_rfl) (by kernel_rfl) (fun _ _ _ h => h) (by rfl) (by assumption) ?_
            try simp only [Act.put, List.setIfInBounds_toArray, List.set_cons_zero, List.set_cons_succ]
            refine takeU (i := 25) (some 110) rfl rfl (by kernel_rfl) (by kernel_rfl) (by kernel_rfl) (fun _ _ _ h => h) (by rfl) (by assumption) ?_
            try simp only [Act.put, List.setIfInBounds_toArray, List.set_cons_zero, List.set_cons_succ]
            refine takeU (i := 26) (some 111) rfl rfl (by kernel_rfl) (by kernel_rfl) (by kernel_rfl) (fun _ _ _ h => h) (by rfl) (by assumption) ?_
            try simp only [Act.put, List.setIfInBounds_toArray, List.set_cons_zero, List.set_cons_succ]
            refine takeH (i := 27) (some 112) ?vob76 rfl rfl (by kernel_rfl) (by kernel_rfl) (by kernel_rfl) (fun _ _ _ h => h) (by rfl) ?yob77 (by assumption) ?rob78
            case yob77 => intro W hSw; go_simp; all_goals with_reducible rfl
            try simp only [Act.put, List.setIfInBounds_toArray, List.set_cons_zero, List.set_cons_succ]
            refine wpAnyH_done (by kernel_rfl) ?_ _
            refine NoPanic.normal ?_
            go_wp2
            go_ret
            exact (HCS.out.go HBI.out).no
          have q2 : decide ((122 : Int) < (c.toNat : Int)) = false := decide_eq_false (by omega)
          have HI1 : Hid (W4.heap[W2.heap.size]? = some (.stringIter m (pos + 1))) := by
            have h1 := HDEC.out (by rw [← HC.out]; omega)
            have h2 := HIT2.out
            rw [h1] at h2
            exact Lib.hid h2
          have HLT2 : Hid (∀ j (hj : j < m.size), j < pos + 1 → 97 ≤ (m[j]'hj).toNat ∧ (m[j]'hj).toNat ≤ 122) := by
            refine Lib.hid (fun j hj hjp => ?_)
            by_cases e : j = pos
            · subst e
              rw [← HC.out]
              omega
            · exact HLET.out j hj (by omega)
          clear ha hb
          by_cases hz : pos = 0
          · have q3 : decide ((0 : Int) < (pos : Nat)) = false := decide_eq_false (by omega)
            have hz3 : ¬ 0 < pos := by omega
            clear hz
            refine wp_region_noPanic ?_
            refine wp_region_held_drew (S := fun W => W.heap[w.heap.size]? = some (.cells (vcells 11 t m n b h (.slice ba bn bc) (.slice ka kn kc)) 26 (0, 0))) (by kernel_rfl) (HDR.out) (fun hHeld => ?_)
            refine takeH (i := 0) (some 85) ?voc79 rfl rfl (by kernel_rfl) (by kernel_rfl) (by kernel_rfl) (fun _ _ _ h => h) (by rfl) ?yoc80 (by assumption) ?roc81
            case yoc80 => intro W hSw; go_simp; all_goals with_reducible rfl
            try simp only [Act.put, List.setIfInBounds_toArray, List.set_cons_zero, List.set_cons_succ]
            refine takeH (i := 1) (some 86) (.string m) rfl rfl (by kernel_rfl) (by kernel_rfl) (by kernel_rfl) (fun _ _ _ h => h) (by rfl) (fun W hSw => by have hcl : W.cell? ⟨w.heap.size, 2, none⟩ = some (.string m) := (by simp only [World.cell?, hSw]; rfl); go_simp) (by assumption) ?_
            try simp only [Act.put, List.setIfInBounds_toArray, List.set_cons_zero, List.set_cons_succ]
            refine takeH (i := 2) (some 87) ?voc82 rfl rfl (by kernel_rfl) (by kernel_rfl) (by kernel_rfl) (fun _ _ _ h => h) (by rfl) ?yoc83 (by assumption) ?roc84
            case yoc83 => intro W hSw; go_simp; all_goals with_reducible rfl
            try simp only [Act.put, List.setIfInBounds_toArray, List.set_cons_zero, List.set_cons_succ]
            refine takeH (i := 3) (some 88) (.int .u8 (c.toNat : Int)) rfl rfl (by kernel_rfl) (by kernel_rfl) (by kernel_rfl) (fun _ _ _ h => h) (by rfl) (fun W hSw => by have hq := hix W; go_simp) (by assumption) ?_
            try simp only [Act.put, List.setIfInBounds_toArray, List.set_cons_zero, List.set_cons_succ]
            refine takeH (i := 4) (some 89) (.bool false) rfl rfl (by kernel_rfl) (by kernel_rfl) (by kernel_rfl) (fun _ _ _ h => h) (by rfl) (fun W hSw => by go_simp; first | done | exact q1 | rw [q1]) (by assumption) ?_
            try simp only [Act.put, List.setIfInBounds_toArray, List.set_cons_zero, List.set_cons_succ]
            refine takeH (i := 5) (some 90) ?voc85 rfl rfl (by kernel_rfl) (by kernel_rfl) (by kernel_rfl) (fun _ _ _ h => h) (by rfl) ?yoc86 (by assumption) ?roc87
            case yoc86 => intro W hSw; go_simp; all_goals with_reducible rfl
            try simp only [Act.put, List.setIfInBounds_toArray, List.set_cons_zero, List.set_cons_succ]
            refine takeH (i := 6) (some 91) ?voc88 rfl rfl (by kernel_rfl) (by kernel_rfl) (by kernel_rfl) (fun _ _ _ h => h) (by rfl) ?yoc89 (by assumption) ?roc90
            case yoc89 => intro W hSw; go_simp; all_goals with_reducible rfl
            try simp only [Act.put, List.setIfInBounds_toArray, List.set_cons_zero, List.set_cons_succ]
            refine takeH (i := 7) (some 92) (.string m) rfl rfl (by kernel_rfl) (by kernel_rfl) (by kernel_rfl) (fun _ _ _ h => h) (by rfl) (fun W hSw => by have hcl : W.cell? ⟨w.heap.size, 2, none⟩ = some (.string m) := (by simp only [World.cell?, hSw]; rfl); go_simp) (by assumption) ?_
            try simp only [Act.put, List.setIfInBounds_toArray, List.set_cons_zero, List.set_cons_succ]
            refine takeH (i := 8) (some 93) ?voc91 rfl rfl (by kernel_rfl) (by kernel_rfl) (by kernel_rfl) (fun _ _ _ h => h) (by rfl) ?yoc92 (by assumption) ?roc93
            case yoc92 => intro W hSw; go_simp; all_goals with_reducible rfl
            try simp only [Act.put, List.setIfInBounds_toArray, List.set_cons_zero, List.set_cons_succ]
            refine takeH (i := 9) (some 94) (.int .u8 (c.toNat : Int)) rfl rfl (by kernel_rfl) (by kernel_rfl) (by kernel_rfl) (fun _ _ _ h => h) (by rfl) (fun W hSw => by have hq := hix W; go_simp) (by assumption) ?_
            try simp only [Act.put, List.setIfInBounds_toArray, List.set_cons_zero, List.set_cons_succ]
            refine takeH (i := 10) (some 95) (.bool false) rfl rfl (by kernel_rfl) (by kernel_rfl) (by kernel_rfl) (fun _ _ _ h => h) (by rfl) (fun W hSw => by go_simp; first | done | exact q2 | rw [q2]) (by assumption) ?_
            try simp only [Act.put, List.setIfInBounds_toArray, List.set_cons_zero, List.set_cons_succ]
            refine takeH (i := 11) (some 96) ?voc94 rfl rfl (by kernel_rfl) (by kernel_rfl) (by kernel_rfl) (fun _ _ _ h => h) (by rfl) ?yoc95 (by assumption) ?roc96
            case yoc95 => intro W hSw; go_simp; all_goals with_reducible rfl
            try simp only [Act.put, List.setIfInBounds_toArray, List.set_cons_zero, List.set_cons_succ]
            refine takeH (i := 12) (some 97) ?voc97 rfl rfl (by kernel_rfl) (by kernel_rfl) (by kernel_rfl) (fun _ _ _ h => h) (by rfl) ?yoc98 (by assumption) ?roc99
            case yoc98 => intro W hSw; go_simp; all_goals with_reducible rfl
            try simp only [Act.put, List.setIfInBounds_toArray, List.set_cons_zero, List.set_cons_succ]
            refine takeH (i := 13) (some 98) ?voc100 rfl rfl (by kernel_rfl) (by kernel_rfl) (by kernel_rfl) (fun _ _ _ h => h) (by rfl) ?yoc101 (by assumption) ?roc102
            case yoc101 => intro W hSw; go_simp; all_goals with_reducible rfl
            try simp only [Act.put, List.setIfInBounds_toArray, List.set_cons_zero, List.set_cons_succ]
            refine takeH (i := 14) (some 99) (.bool false) rfl rfl (by kernel_rfl) (by kernel_rfl) (by kernel_rfl) (fun _ _ _ h => h) (by rfl) (fun W hSw => by go_simp; first | done | omega) (by assumption) ?_
            try simp only [Act.put, List.setIfInBounds_toArray, List.set_cons_zero, List.set_cons_succ]
            refine takeH (i := 15) (some 100) ?voc103 rfl rfl (by kernel_rfl) (by kernel_rfl) (by kernel_rfl) (fun _ _ _ h => h) (by rfl) ?yoc104 (by assumption) ?roc105
            case yoc104 => intro W hSw; go_simp; all_goals with_reducible rfl
            try simp only [Act.put, List.setIfInBounds_toArray, List.set_cons_zero, List.set_cons_succ]
            refine takeU (i := 16) (some 101) rfl rfl (by kernel_rfl) (by kernel_rfl) (by kernel_rfl) (fun _ _ _ h => h) (by rfl) (by assumption) ?_
            try simp only [Act.put, List.setIfInBounds_toArray, List.set_cons_zero, List.set_cons_succ]
            refine takeU (i := 17) (some 102) rfl rfl (by kernel_rfl) (by kernel_rfl) (by kernel_rfl) (fun _ _ _ h => h) (by rfl) (by assumption) ?_
            try simp only [Act.put, List.setIfInBounds_toArray, List.set_cons_zero, List.set_cons_succ]
            refine takeU (i := 18) (some 103) rfl rfl (by kernel_rfl) (by kernel_rfl) (by kernel_rfl) (fun _ _ _ h => h) (by rfl) (by assumption) ?_
            try simp only [Act.put, List.setIfInBounds_toArray, List.set_cons_zero, List.set_cons_succ]
            refine takeU (i := 19) (some 104) rfl rfl (by kernel_rfl) (by kernel_rfl) (by kernel_rfl) (fun _ _ _ h => h) (by rfl) (by assumption) ?_
            try simp only [Act.put, List.setIfInBounds_toArray, List.set_cons_zero, List.set_cons_succ]
            refine takeU (i := 20) (some 105) rfl rfl (by kernel_rfl) (by kernel_rfl) (by kernel_rfl) (fun _ _ _ h => h) (by rfl) (by assumption) ?_
            try simp only [Act.put, List.setIfInBounds_toArray, List.set_cons_zero, List.set_cons_succ]
            refine takeU (i := 21) (some 106) rfl rfl (by kernel_rfl) (by kernel_rfl) (by kernel_rfl) (fun _ _ _ h => h) (by rfl) (by assumption) ?_
            try simp only [Act.put, List.setIfInBounds_toArray, List.set_cons_zero, List.set_cons_succ]
            refine takeU (i := 22) (some 107) rfl rfl (by kernel_rfl) (by kernel_rfl) (by kernel_rfl) (fun _ _ _ h => h) (by rfl) (by assumption) ?_
            try simp only [Act.put, List.setIfInBounds_toArray, List.set_cons_zero, List.set_cons_succ]
            refine takeU (i := 23) (some 108) rfl rfl (by kernel_rfl) (by kernel_rfl) (by kernel_rfl) (fun _ _ _ h => h) (by rfl) (by assumption) ?_
            try simp only [Act.put, List.setIfInBounds_toArray, List.set_cons_zero, List.set_cons_succ]
            refine takeU (i := 24) (some 109) rfl rfl (by kernel_rfl) (by kernel_rfl) (by kernel_rfl) (fun _ _ _ h => h) (by rfl) (by assumption) ?_
            try simp only [Act.put, List.setIfInBounds_toArray, List.set_cons_zero, List.set_cons_succ]
            refine takeU (i := 25) (some 110) rfl rfl (by kernel_rfl) (by kernel_rfl) (by kernel_rfl) (fun _ _ _ h => h) (by rfl) (by assumption) ?_
            try simp only [Act.put, List.setIfInBounds_toArray, List.set_cons_zero, List.set_cons_succ]
            refine takeH (i := 26) (some 111) ?voc106 rfl rfl (by kernel_rfl) (by kernel_rfl) (by kernel_rfl) (fun _ _ _ h => h) (by rfl) ?yoc107 (by assumption) ?roc108
            case yoc107 => intro W hSw; go_simp; all_goals with_reducible rfl
            try simp only [Act.put, List.setIfInBounds_toArray, List.set_cons_zero, List.set_cons_succ]
            refine takeH (i := 27) (some 112) ?voc109 rfl rfl (by kernel_rfl) (by kernel_rfl) (by kernel_rfl) (fun _ _ _ h => h) (by rfl) ?yoc110 (by assumption) ?roc111
            case yoc110 => intro W hSw; go_simp; all_goals with_reducible rfl
            try simp only [Act.put, List.setIfInBounds_toArray, List.set_cons_zero, List.set_cons_succ]
            refine wpAnyH_done (by kernel_rfl) ?_ _
            refine NoPanic.normal ?_
            go_wp2
            go_roundg (m.size - (pos + 1))
            case measure => omega
            case rel => exact ⟨pos + 1, rfl, by omega, HI1.out, HBI.out, HLT2.out⟩
          · have q3 : decide ((0 : Int) < (pos : Nat)) = true := decide_eq_true (by omega)
            obtain ⟨p1, hp1⟩ : ∃ p1, p1 = pos - 1 := ⟨_, rfl⟩
            have hp2 : IntKind.i64.wrap ((pos : Nat) - 1 : Int) = (p1 : Nat) := by rw [IntKind.wrap_i64]; have := HSM.out.2.2.2.1; omega
            have hp1' : p1 < m.size := by omega
            obtain ⟨c0, hc0⟩ : ∃ c0, c0 = m[p1]'hp1' := ⟨_, rfl⟩
            clear hp1
            have hix0 : ∀ W : World, (Instr.index 9 (.string m) (.int .i64 (p1 : Nat))).run Tryz.prog W = .ok (.int .u8 (c0.toNat : Int)) W := by
              intro W
              go_simp
            clear hc0
            refine wp_region_noPanic ?_
            refine wp_region_held_drew (S := fun W => W.heap[w.heap.size]? = some (.cells (vcells 11 t m n b h (.slice ba bn bc) (.slice ka kn kc)) 26 (0, 0))) (by kernel_rfl) (HDR.out) (fun hHeld => ?_)
            refine takeH (i := 0) (some 85) ?vod112 rfl rfl (by kernel_rfl) (by kernel_rfl) (by kernel_rfl) (fun _ _ _ h => h) (by rfl) ?yod113 (by assumption) ?rod114
            case yod113 => intro W hSw; go_simp; all_goals with_reducible rfl
            try simp only [Act.put, List.setIfInBounds_toArray, List.set_cons_zero, List.set_cons_succ]
            refine takeH (i := 1) (some 86) (.string m) rfl rfl (by kernel_rfl) (by kernel_rfl) (by kernel_rfl) (fun _ _ _ h => h) (by rfl) (fun W hSw => by have hcl : W.cell? ⟨w.heap.size, 2, none⟩ = some (.string m) := (by simp only [World.cell?, hSw]; rfl); go_simp) (by assumption) ?_
            try simp only [Act.put, List.setIfInBounds_toArray, List.set_cons_zero, List.set_cons_succ]
            refine takeH (i := 2) (some 87) ?vod115 rfl rfl (by kernel_rfl) (by kernel_rfl) (by kernel_rfl) (fun _ _ _ h => h) (by rfl) ?yod116 (by assumption) ?rod117
            case yod116 => intro W hSw; go_simp; all_goals with_reducible rfl
            try simp only [Act.put, List.setIfInBounds_toArray, List.set_cons_zero, List.set_cons_succ]
            refine takeH (i := 3) (some 88) (.int .u8 (c.toNat : Int)) rfl rfl (by kernel_rfl) (by kernel_rfl) (by kernel_rfl) (fun _ _ _ h => h) (by rfl) (fun W hSw => by have hq := hix W; go_simp) (by assumption) ?_
            try simp only [Act.put, List.setIfInBounds_toArray, List.set_cons_zero, List.set_cons_succ]
            refine takeH (i := 4) (some 89) (.bool false) rfl rfl (by kernel_rfl) (by kernel_rfl) (by kernel_rfl) (fun _ _ _ h => h) (by rfl) (fun W hSw => by go_simp; first | done | exact q1 | rw [q1]) (by assumption) ?_
            try simp only [Act.put, List.setIfInBounds_toArray, List.set_cons_zero, List.set_cons_succ]
            refine takeH (i := 5) (some 90) ?vod118 rfl rfl (by kernel_rfl) (by kernel_rfl) (by kernel_rfl) (fun _ _ _ h => h) (by rfl) ?yod119 (by assumption) ?rod120
            case yod119 => intro W hSw; go_simp; all_goals with_reducible rfl
            try simp only [Act.put, List.setIfInBounds_toArray, List.set_cons_zero, List.set_cons_succ]
            refine takeH (i := 6) (some 91) ?vod121 rfl rfl (by kernel_rfl) (by kernel_rfl) (by kernel_rfl) (fun _ _ _ h => h) (by rfl) ?yod122 (by assumption) ?rod123
            case yod122 => intro W hSw; go_simp; all_goals with_reducible rfl
            try simp only [Act.put, List.setIfInBounds_toArray, List.set_cons_zero, List.set_cons_succ]
            refine takeH (i := 7) (some 92) (.string m) rfl rfl (by kernel_rfl) (by kernel_rfl) (by kernel_rfl) (fun _ _ _ h => h) (by rfl) (fun W hSw => by have hcl : W.cell? ⟨w.heap.size, 2, none⟩ = some (.string m) := (by simp only [World.cell?, hSw]; rfl); go_simp) (by assumption) ?_
            try simp only [Act.put, List.setIfInBounds_toArray, List.set_cons_zero, List.set_cons_succ]
            refine takeH (i := 8) (some 93) ?vod124 rfl rfl (by kernel_rfl) (by kernel_rfl) (by kernel_rfl) (fun _ _ _ h => h) (by rfl) ?yod125 (by assumption) ?rod126
            case yod125 => intro W hSw; go_simp; all_goals with_reducible rfl
            try simp only [Act.put, List.setIfInBounds_toArray, List.set_cons_zero, List.set_cons_succ]
            refine takeH (i := 9) (some 94) (.int .u8 (c.toNat : Int)) rfl rfl (by kernel_rfl) (by kernel_rfl) (by kernel_rfl) (fun _ _ _ h => h) (by rfl) (fun W hSw => by have hq := hix W; go_simp) (by assumption) ?_
            try simp only [Act.put, List.setIfInBounds_toArray, List.set_cons_zero, List.set_cons_succ]
            refine takeH (i := 10) (some 95) (.bool false) rfl rfl (by kernel_rfl) (by kernel_rfl) (by kernel_rfl) (fun _ _ _ h => h) (by rfl) (fun W hSw => by go_simp; first | done | exact q2 | rw [q2]) (by assumption) ?_
            try simp only [Act.put, List.setIfInBounds_toArray, List.set_cons_zero, List.set_cons_succ]
            refine takeH (i := 11) (some 96) ?vod127 rfl rfl (by kernel_rfl) (by kernel_rfl) (by kernel_rfl) (fun _ _ _ h => h) (by rfl) ?yod128 (by assumption) ?rod129
            case yod128 => intro W hSw; go_simp; all_goals with_reducible rfl
            try simp only [Act.put, List.setIfInBounds_toArray, List.set_cons_zero, List.set_cons_succ]
            refine takeH (i := 12) (some 97) ?vod130 rfl rfl (by kernel_rfl) (by kernel_rfl) (by kernel_rfl) (fun _ _ _ h => h) (by rfl) ?yod131 (by assumption) ?rod132
            case yod131 => intro W hSw; go_simp; all_goals with_reducible rfl
            try simp only [Act.put, List.setIfInBounds_toArray, List.set_cons_zero, List.set_cons_succ]
            refine takeH (i := 13) (some 98) ?vod133 rfl rfl (by kernel_rfl) (by kernel_rfl) (by kernel_rfl) (fun _ _ _ h => h) (by rfl) ?yod134 (by assumption) ?rod135
            case yod134 => intro W hSw; go_simp; all_goals with_reducible rfl
            try simp only [Act.put, List.setIfInBounds_toArray, List.set_cons_zero, List.set_cons_succ]
            refine takeH (i := 14) (some 99) (.bool true) rfl rfl (by kernel_rfl) (by kernel_rfl) (by kernel_rfl) (fun _ _ _ h => h) (by rfl) (fun W hSw => by go_simp; first | done | omega) (by assumption) ?_
            try simp only [Act.put, List.setIfInBounds_toArray, List.set_cons_zero, List.set_cons_succ]
            refine takeH (i := 15) (some 100) ?vod136 rfl rfl (by kernel_rfl) (by kernel_rfl) (by kernel_rfl) (fun _ _ _ h => h) (by rfl) ?yod137 (by assumption) ?rod138
            case yod137 => intro W hSw; go_simp; all_goals with_reducible rfl
            try simp only [Act.put, List.setIfInBounds_toArray, List.set_cons_zero, List.set_cons_succ]
            refine takeH (i := 16) (some 101) ?vod139 rfl rfl (by kernel_rfl) (by kernel_rfl) (by kernel_rfl) (fun _ _ _ h => h) (by rfl) ?yod140 (by assumption) ?rod141
            case yod140 => intro W hSw; go_simp; all_goals with_reducible rfl
            try simp only [Act.put, List.setIfInBounds_toArray, List.set_cons_zero, List.set_cons_succ]
            refine takeH (i := 17) (some 102) (.string m) rfl rfl (by kernel_rfl) (by kernel_rfl) (by kernel_rfl) (fun _ _ _ h => h) (by rfl) (fun W hSw => by have hcl : W.cell? ⟨w.heap.size, 2, none⟩ = some (.string m) := (by simp only [World.cell?, hSw]; rfl); go_simp) (by assumption) ?_
            try simp only [Act.put, List.setIfInBounds_toArray, List.set_cons_zero, List.set_cons_succ]
            refine takeH (i := 18) (some 103) ?vod142 rfl rfl (by kernel_rfl) (by kernel_rfl) (by kernel_rfl) (fun _ _ _ h => h) (by rfl) ?yod143 (by assumption) ?rod144
            case yod143 => intro W hSw; go_simp; all_goals with_reducible rfl
            try simp only [Act.put, List.setIfInBounds_toArray, List.set_cons_zero, List.set_cons_succ]
            refine takeH (i := 19) (some 104) (.int .u8 (c.toNat : Int)) rfl rfl (by kernel_rfl) (by kernel_rfl) (by kernel_rfl) (fun _ _ _ h => h) (by rfl) (fun W hSw => by have hq := hix W; go_simp) (by assumption) ?_
            try simp only [Act.put, List.setIfInBounds_toArray, List.set_cons_zero, List.set_cons_succ]
            refine takeH (i := 20) (some 105) ?vod145 rfl rfl (by kernel_rfl) (by kernel_rfl) (by kernel_rfl) (fun _ _ _ h => h) (by rfl) ?yod146 (by assumption) ?rod147
            case yod146 => intro W hSw; go_simp; all_goals with_reducible rfl
            try simp only [Act.put, List.setIfInBounds_toArray, List.set_cons_zero, List.set_cons_succ]
            refine takeH (i := 21) (some 106) (.string m) rfl rfl (by kernel_rfl) (by kernel_rfl) (by kernel_rfl) (fun _ _ _ h => h) (by rfl) (fun W hSw => by have hcl : W.cell? ⟨w.heap.size, 2, none⟩ = some (.string m) := (by simp only [World.cell?, hSw]; rfl); go_simp) (by assumption) ?_
            try simp only [Act.put, List.setIfInBounds_toArray, List.set_cons_zero, List.set_cons_succ]
            refine takeH (i := 22) (some 107) ?vod148 rfl rfl (by kernel_rfl) (by kernel_rfl) (by kernel_rfl) (fun _ _ _ h => h) (by rfl) ?yod149 (by assumption) ?rod150
            case yod149 => intro W hSw; go_simp; all_goals with_reducible rfl
            try simp only [Act.put, List.setIfInBounds_toArray, List.set_cons_zero, List.set_cons_succ]
            refine takeH (i := 23) (some 108) (.int .i64 ((p1 : Nat) : Int)) rfl rfl (by kernel_rfl) (by kernel_rfl) (by kernel_rfl) (fun _ _ _ h => h) (by rfl) (fun W hSw => by go_simp; first | done | exact hp2 | rw [hp2]) (by assumption) ?_
            try simp only [Act.put, List.setIfInBounds_toArray, List.set_cons_zero, List.set_cons_succ]
            refine takeH (i := 24) (some 109) (.int .u8 (c0.toNat : Int)) rfl rfl (by kernel_rfl) (by kernel_rfl) (by kernel_rfl) (fun _ _ _ h => h) (by rfl) (fun W hSw => by have hq := hix0 W; go_simp) (by assumption) ?_
            try simp only [Act.put, List.setIfInBounds_toArray, List.set_cons_zero, List.set_cons_succ]
            refine takeH (i := 25) (some 110) (.bool (decide (c.toNat < c0.toNat))) rfl rfl (by kernel_rfl) (by kernel_rfl) (by kernel_rfl) (fun _ _ _ h => h) (by rfl) (fun W hSw => by go_simp) (by assumption) ?_
            try simp only [Act.put, List.setIfInBounds_toArray, List.set_cons_zero, List.set_cons_succ]
            refine takeH (i := 26) (some 111) ?vod151 rfl rfl (by kernel_rfl) (by kernel_rfl) (by kernel_rfl) (fun _ _ _ h => h) (by rfl) ?yod152 (by assumption) ?rod153
            case yod152 => intro W hSw; go_simp; all_goals with_reducible rfl
            try simp only [Act.put, List.setIfInBounds_toArray, List.set_cons_zero, List.set_cons_succ]
            refine takeH (i := 27) (some 112) ?vod154 rfl rfl (by kernel_rfl) (by kernel_rfl) (by kernel_rfl) (fun _ _ _ h => h) (by rfl) ?yod155 (by assumption) ?rod156
            case yod155 => intro W hSw; go_simp; all_goals with_reducible rfl
            try simp only [Act.put, List.setIfInBounds_toArray, List.set_cons_zero, List.set_cons_succ]
            refine wpAnyH_done (by kernel_rfl) ?_ _
            refine NoPanic.normal ?_
            generalize decide (c.toNat < c0.toNat) = QB
            cases QB
            · go_wp2
              go_roundg (m.size - (pos + 1))
              case measure => omega
              case rel => exact ⟨pos + 1, rfl, by omega, HI1.out, HBI.out, HLT2.out⟩
            · go_wp2
              go_ret
              exact (HCS.out.go HBI.out).no
        · have hnx := fun ty => Go.Lib.run_next_end_at (P := Tryz.prog) wr W2.heap.size m pos ty hit hp
          have HBI := Lib.hid hbl
          have HL : Hid (Letters m) := Lib.hid (fun i hi => HLET.out i hi (by omega))
          clear hbl hit
          go_wp2
          go_meet
          exact ⟨Lib.hid (fun _ => HL.out), Lib.hid (HCS.out.go HBI.out)⟩
    have e1 : (K == 1) = false := beq_eq_false_iff_ne.2 h1
    have e12 : (K == 12) = false := beq_eq_false_iff_ne.2 h12
    have e19 : (K == 19) = false := beq_eq_false_iff_ne.2 h19
    have e11 : (K == 11) = false := beq_eq_false_iff_ne.2 h11
    have H11 := Lib.hid h11
    clear h1 h12 h19 h11
    go_wp2
    go_meet
    exact ⟨Lib.hid (fun e => absurd e H11.out), HCS⟩
  case rest =>
  obtain ⟨hlet, hcs3⟩ := hcut
  clear HCS s0 sf a0 a1 a2 a3 a4 a5 a6 a7 af
  have HCS := hcs3
  obtain ⟨s0, sf⟩ := cell1 hcs3.out.left
  obtain ⟨a0, a1, a2, a3, a4, a5, a6, a7, af⟩ := cells8 hcs3.out.box
  clear hcs3
  have hkb : kn ≤ 9223372036854775807 := hkl
  obtain ⟨A, hA⟩ : ∃ A, A = vcells K t m n b h (.slice ba bn bc) (.slice ka kn kc) := ⟨_, rfl⟩
  have HA := Lib.hid hA
  go_upto_block 3 with fail
  go_wp2
  clear s0 sf a0 a1 a2 a3 a4 a5 a6 a7 af
  rw [← HA.out] at HCS
  clear hA
  generalize wc = W3 at HCS ⊢
  have HCS0 := HCS
  have HL := Lib.hid (And.intro b1 hq1)
  clear b1 hq1
  go_loopg [116] kn (fun q v wx => Aside (∃ i : Nat, q = kn - i ∧ i ≤ kn ∧ v = .int .i64 (i : Nat) ∧ ∃ l2 : Int, CS gl w.heap.size A l2 w wx ∧ l2 = l1 - nodesL (ks.take i) ∧ 0 ≤ l2 ∧ l2 ≤ 300 ∧ SmallL (ks.take i)))
  case atStart => exact ⟨0, rfl, by omega, rfl, l1, HCS0.out, by rw [List.take_zero, nodesL]; simp, HL.out.1, by have := HL.out; omega, fun e he => by rw [List.take_zero] at he; cases he⟩
  case round =>
    clear HCS0 HCS
    obtain ⟨i, rfl, hi, rfl, l2, hcs, hl2, hl20, hl21, hsl⟩ := hrel.out
    clear hrel
    have HCS := Lib.hid hcs
    have HS := Lib.hid (And.intro hl2 (And.intro hl20 (And.intro hl21 hsl)))
    have hlen : kn = ks.length := HX.out.2.2.1
    have HKN := Lib.hid hlen
    clear hcs hl2 hl20 hl21 hsl hlen
    by_cases hlt : i < kn
    · have hik : i < ks.length := by have := HKN.out; omega
      have hkne : ks ≠ [] := by rintro rfl; simp at hik
      obtain ⟨hka, hkb2⟩ := HX.out.2.2.2.1 hkne
      have hra := HX.out.2.2.2.2.1 i hik
      have hns := HX.out.2.2.2.2.2.1 i hik
      have hva := HX.out.2.2.2.2.2.2.1 i hik
      have hold : ∀ k, k < L → wr.heap[k]? = w.heap[k]? := fun k hk => HCS.out.grown.block k (by have := IH.out.2; omega) (fun e => by have := IH.out.2; injection e with e; omega)
      have hih := fun v deep l w hv h1 h2 h3 h4 h5 => IH.out.1 _ (List.getElem_mem hik) L v deep gl l w hv IH.out.2 h1 h2 h3 h4 h5
      have htk := nodesL_succ ks i hik
      have hsl : ks[i].1.size ≤ 300 → SmallT ks[i].2 → SmallL (ks.take (i + 1)) := by
        intro h1 h2 e he
        rw [List.take_succ_eq_append_getElem hik] at he
        rcases List.mem_append.1 he with h | h
        · exact HS.out.2.2.2 e h
        · rw [List.mem_singleton] at h
          subst h
          exact ⟨h1, h2⟩
      generalize ks[i].1 = nm at hra hns hsl
      generalize ks[i].2 = tr at hva hih htk hsl
      obtain ⟨cv, hc0⟩ : ∃ cv, cv = C i := ⟨_, rfl⟩
      rw [← hc0] at hra hva
      subst hka
      obtain ⟨hc8, hc1⟩ := hva.size
      have HVA := Lib.hid (hva.kept (Nat.le_refl _) hold)
      have HC8 := Lib.hid hc8
      have HC1 := Lib.hid hc1
      have HRA := Lib.hid (rangeAt_kept hra (hold kb hkb2))
      have HI := Lib.hid (And.intro hih (And.intro htk (And.intro hsl hkb2)))
      clear hc0 hra hva hc8 hc1 hkne hold hih htk hsl hkb2
      go_upto_region 24 with (first | ((with_reducible refine wpList_at (some 119) ?_); refine wpList_load_mid rfl 33 (.tmp 118) rfl kb (ko + i * 9) rfl (.string nm :: cv.toList) _ HRA.out Tryz.underlying33 rfl (kid_info HC8.out) ?_) | ((with_reducible refine wpList_at none ?_); refine wpList_store_new rfl 33 (.tmp 10) (.tmp 119) rfl rfl _ _ (Value.string nm :: cv.toList).toArray _ rfl rfl (kid_info2 HC8.out) (kid_size HC8.out) (kid_one HC1.out) ?_))
      have hA6 := heap_alloc_new wr (.cells (Value.string nm :: cv.toList).toArray 33)
      have hb6 := (Below.refl wr.heap.size wr).alloc (Nat.le_refl _) (.cells (Value.string nm :: cv.toList).toArray 33)
      generalize wr.alloc (.cells (Value.string nm :: cv.toList).toArray 33) = W6 at hA6 hb6 ⊢
      have cn : W6.cell? ⟨wr.heap.size, 0, none⟩ = some (.string nm) := kid_name hA6
      have cr : W6.rangeAt wr.heap.size 1 cv.toList := kid_range hA6
      have hi26 : (Tryz.prog.info? 26).map (·.size) = some cv.toList.length := by rw [info26]; simp [HC8.out]
      have hcs6 := HCS.out.go hb6
      have hva6 : VAt W6 L tr (.agg cv.toList.toArray) := by
        rw [Array.toArray_toList]
        exact HVA.out.kept (Nat.le_refl _) (fun k hk => hb6.block k (by have := IH.out.2; have := lt_of_heap HCS.out.left; omega))
      have HREC := Lib.hid (HI.out.1 _ (deep - 1) l2 W6 hva6 hcs6.left HS.out.2.1 HS.out.2.2.1 (by omega) (by omega))
      have H6 := Lib.hid (And.intro cr hi26)
      have HCS6 := Lib.hid hcs6
      clear hA6 hb6 cr hi26 hcs6 hva6
      go_cut [143] from 120 to 143 (fun v wx => ∃ r : Bool, v = .bool r ∧ ∃ l3 : Int, Hid (CS gl w.heap.size A l3 w wx) ∧ Hid (r = false → nm.size ≤ 300 ∧ SmallT tr ∧ l3 = l2 - tr.nodes ∧ 0 ≤ l3))
      case first =>
        by_cases hE : nm = ByteArray.empty
        · subst hE
          go_wp2_with (first | (go_at_call 14; refine (extText _ (by assumption) _).mono ?_; rintro e2 w2 ⟨r, rfl, hr, rfl⟩; have HRx := Lib.hid hr; clear hr; cases r) | ((with_reducible refine wpList_at (some 137) ?_); refine wpList_load_mid_g (by rfl) 26 (.tmp 136) rfl wr.heap.size 1 rfl cv.toList _ H6.out.1 Tryz.underlying26 rfl H6.out.2 ?_) | (go_at_call 8; refine (HREC.out).mono ?_; rintro e4 w4 ⟨r4, rfl, ⟨l3, hl3, hyes⟩, hg⟩; have H4 := Lib.hid (And.intro hl3 (And.intro hyes hg)); clear hl3 hyes hg; cases r4))
          all_goals go_meet
          all_goals first | exact ⟨true, rfl, l2, HCS6, Lib.hid (fun e => by cases e)⟩ | exact ⟨true, rfl, l3, Lib.hid (HCS6.out.sub H4.out.2.2 H4.out.1 (Ne.symm hne)), Lib.hid (fun e => by cases e)⟩ | exact ⟨false, rfl, l3, Lib.hid (HCS6.out.sub H4.out.2.2 H4.out.1 (Ne.symm hne)), Lib.hid (fun _ => ⟨(show Hid (Le300 ByteArray.empty true) by assumption).out rfl, H4.out.2.1 (by first | rfl | trivial)⟩)⟩
        · have hp : 0 < nm.size := Nat.pos_of_ne_zero (fun e => hE (ByteArray.ext (Array.eq_empty_of_size_eq_zero e)))
          obtain ⟨ci, hix⟩ : ∃ ci : Int, ∀ W : World, (Instr.index 9 (.string nm) (.int .i64 0)).run Tryz.prog W = .ok (.int .u8 ci) W := by
            refine ⟨((nm[0]'hp).toNat : Int), fun W => ?_⟩
            go_simp
          by_cases h36 : ci = 36
          · subst h36
            go_wp2_with (first | (go_at_call 14; refine (extText _ (by assumption) _).mono ?_; rintro e2 w2 ⟨r, rfl, hr, rfl⟩; have HRx := Lib.hid hr; clear hr; cases r) | ((with_reducible refine wpList_at (some 137) ?_); refine wpList_load_mid_g (by rfl) 26 (.tmp 136) rfl wr.heap.size 1 rfl cv.toList _ H6.out.1 Tryz.underlying26 rfl H6.out.2 ?_) | (go_at_call 8; refine (HREC.out).mono ?_; rintro e4 w4 ⟨r4, rfl, ⟨l3, hl3, hyes⟩, hg⟩; have H4 := Lib.hid (And.intro hl3 (And.intro hyes hg)); clear hl3 hyes hg; cases r4))
            all_goals go_meet
            all_goals first | exact ⟨true, rfl, l2, HCS6, Lib.hid (fun e => by cases e)⟩ | exact ⟨true, rfl, l3, Lib.hid (HCS6.out.sub H4.out.2.2 H4.out.1 (Ne.symm hne)), Lib.hid (fun e => by cases e)⟩ | exact ⟨false, rfl, l3, Lib.hid (HCS6.out.sub H4.out.2.2 H4.out.1 (Ne.symm hne)), Lib.hid (fun _ => ⟨(show Hid (Le300 nm true) by assumption).out rfl, H4.out.2.1 (by first | rfl | trivial)⟩)⟩
          · have e36 : (ci == 36) = false := beq_eq_false_iff_ne.2 h36
            go_wp2_with (first | (go_at_call 14; refine (extText _ (by assumption) _).mono ?_; rintro e2 w2 ⟨r, rfl, hr, rfl⟩; have HRx := Lib.hid hr; clear hr; cases r) | ((with_reducible refine wpList_at (some 137) ?_); refine wpList_load_mid_g (by rfl) 26 (.tmp 136) rfl wr.heap.size 1 rfl cv.toList _ H6.out.1 Tryz.underlying26 rfl H6.out.2 ?_) | (go_at_call 8; refine (HREC.out).mono ?_; rintro e4 w4 ⟨r4, rfl, ⟨l3, hl3, hyes⟩, hg⟩; have H4 := Lib.hid (And.intro hl3 (And.intro hyes hg)); clear hl3 hyes hg; cases r4))
            all_goals go_meet
            all_goals first | exact ⟨true, rfl, l2, HCS6, Lib.hid (fun e => by cases e)⟩ | exact ⟨true, rfl, l3, Lib.hid (HCS6.out.sub H4.out.2.2 H4.out.1 (Ne.symm hne)), Lib.hid (fun e => by cases e)⟩ | exact ⟨false, rfl, l3, Lib.hid (HCS6.out.sub H4.out.2.2 H4.out.1 (Ne.symm hne)), Lib.hid (fun _ => ⟨(show Hid (Le300 nm true) by assumption).out rfl, H4.out.2.1 (by first | rfl | trivial)⟩)⟩
      case rest =>
      obtain ⟨r, rfl, l3, HC3, hno⟩ := hcut
      cases r with
      | true =>
        go_wp2
        go_ret
        exact HC3.out.no
      | false =>
        have HN := Lib.hid (hno.out rfl)
        clear hno
        go_wp2
        go_roundg (kn - (i + 1))
        case measure => omega
        case rel => exact ⟨i + 1, rfl, by omega, rfl, l3, HC3.out, by have h1 := HN.out; have h2 := HS.out.1; have h3 := HI.out.2.1; omega, HN.out.2.2.2, by have h1 := HN.out; have h2 := HS.out; omega, HI.out.2.2.1 HN.out.1 HN.out.2.1⟩
    · have hik : i = ks.length := by have := HKN.out; omega
      have htk : ks.take i = ks := by rw [hik]; exact List.take_length
      have h1 := HS.out
      rw [htk] at h1
      have H1 := Lib.hid h1
      clear h1 htk hik
      go_wp2
      go_ret
      refine ⟨true, rfl, ⟨l2, HCS.out.left, fun _ => ?_⟩, HCS.out.grown⟩
      have h1 := H1.out
      have h2 := HX.out
      have h3 := HSM.out
      rw [h2.1]
      refine ⟨.mk ⟨h3.2.2.1, h3.2.2.2.1, by omega, h2.2.2.2.2.2.2.2.1, h2.2.2.2.2.2.2.2.2.1, h2.2.2.2.2.2.2.2.2.2, hlet.out⟩ (fun e he => (h1.2.2.2 e he).1) (fun e he => (h1.2.2.2 e he).2), ?_, h1.2.1⟩
      rw [T.nodes]
      have := HQ.out
      omega

end Go.Proofs.YtpkfdbhpmhahaaaGreatDoor
