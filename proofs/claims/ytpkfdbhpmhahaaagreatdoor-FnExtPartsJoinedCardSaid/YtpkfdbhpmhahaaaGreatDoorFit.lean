/- extFits: if it says yes, all is small and known. -/
import Derived.Test.YtpkfdbhpmhahaaaGreatDoorExc
import Derived.Test.YtpkfdbhpmhahaaaGreatDoorGdN
namespace Go.Proofs.YtpkfdbhpmhahaaaGreatDoor
open Go Go.RowKit
set_option linter.unusedSimpArgs false
set_option linter.unusedVariables false

theorem row_range {w : World} {g : Nat} {cs : Array Value} {T : TypeId} (h : w.heap[g]? = some (.cells cs T (0, 0))) : w.rangeAt g 0 cs.toList := fun j v hv => by
  simp only [World.cell?, h]
  simpa using hv

set_option maxRecDepth 100000 in
set_option maxHeartbeats 8000000 in
theorem docRight9 (x : T) (L : Nat) (v : Value) (w : World) (hv : VAt w L x v) (hno : x.nodes ≤ 300) (hL : L ≤ w.heap.size) : Calls Tryz.prog 9 #[v] w (AnsB (fun r => r = true → KnownT x) w) := by
  have hD := fun (W : World) (hb : Below w.heap.size w W) => docRight x L v 200 W (hv.kept (Nat.le_refl _) (fun k hk => hb.block k (by omega))) hno (Nat.le_trans hL hb.size) (by decide) (by decide)
  obtain ⟨K, t, m, n, b, h, bv, kv, rfl⟩ : ∃ K t m n b h bv kv, v = .agg (vcells K t m n b h bv kv) := by
    cases hv
    exact ⟨_, _, _, _, _, _, _, _, rfl⟩
  have HD := Lib.hid hD
  clear hD hv
  go_enter Tryz.func9, Tryz.ntmps9
  go_upto_region 1 with fail
  have hA := heap_alloc_new w (.cells (vcells K t m n b h bv kv) 26)
  have hb := (Below.refl w.heap.size w).alloc (Nat.le_refl _) (.cells (vcells K t m n b h bv kv) 26)
  generalize w.alloc (.cells (vcells K t m n b h bv kv) 26) = W1 at hA hb ⊢
  have HR := Lib.hid (row_range hA)
  have hdw := HD.out W1 hb
  rw [show vcells K t m n b h bv kv = (vcells K t m n b h bv kv).toList.toArray by rw [Array.toArray_toList]] at hdw
  have HDW := Lib.hid hdw
  have HB := Lib.hid hb
  have hi26 : (Tryz.prog.info? 26).map (·.size) = some (vcells K t m n b h bv kv).toList.length := by rw [info26]; rfl
  have HI := Lib.hid hi26
  clear hA hb hdw hi26
  go_wp2_with (first | ((with_reducible refine wpList_at (some 3) ?_); refine wpList_load_mid rfl 26 (.tmp 1) rfl w.heap.size 0 rfl (vcells K t m n b h bv kv).toList _ HR.out Tryz.underlying26 rfl HI.out ?_) | (go_at_call 20; refine (HDW.out).mono ?_; rintro e2 w2 ⟨r, rfl, hr, hb2⟩; have H2 := Lib.hid (And.intro hr hb2); clear hr hb2))
  go_ret
  exact ⟨r, rfl, H2.out.1, below_tr HB.out H2.out.2⟩

def FitP (x : T) (r : Bool) : Prop := r = true → SmallT x ∧ KnownT x ∧ x.nodes ≤ 300
set_option maxRecDepth 100000 in
set_option maxHeartbeats 8000000 in
theorem extFits (x : T) (L : Nat) (v : Value) (w : World) (hv : VAt w L x v) (hL : L ≤ w.heap.size) : Calls Tryz.prog 6 #[v] w (AnsB (FitP x) w) := by
  have HV := Lib.hid hv
  obtain ⟨K, t, m, n, b, h, bv, kv, rfl⟩ : ∃ K t m n b h bv kv, v = .agg (vcells K t m n b h bv kv) := by
    cases hv
    exact ⟨_, _, _, _, _, _, _, _, rfl⟩
  clear hv
  go_enter Tryz.func6, Tryz.ntmps6
  go_upto_region 1 with fail
  have hA := heap_alloc_new w (.cells (vcells K t m n b h bv kv) 26)
  have hb := (Below.refl w.heap.size w).alloc (Nat.le_refl _) (.cells (vcells K t m n b h bv kv) 26)
  have hs : w.heap.size < (w.alloc (.cells (vcells K t m n b h bv kv) 26)).heap.size := by simp
  generalize w.alloc (.cells (vcells K t m n b h bv kv) 26) = W1 at hA hb hs ⊢
  have HA := Lib.hid hA
  have HB := Lib.hid (And.intro hb hs)
  clear hA hb hs
  go_upto_region 2 with fail
  have hA2 : (W1.alloc (.cells #[.int .i64 300] 3)).heap[W1.heap.size]? = some (.cells #[.int .i64 300] 3 (0, 0)) := heap_alloc_new _ _
  have hb2 := (Below.refl W1.heap.size W1).alloc (Nat.le_refl _) (.cells #[.int .i64 300] 3)
  have hs2 : W1.heap.size < (W1.alloc (.cells #[.int .i64 300] 3)).heap.size := by simp
  generalize W1.alloc (.cells #[.int .i64 300] 3) = W2 at hA2 hb2 hs2 ⊢
  have hr2 := row_range ((hb2.block _ HB.out.2).trans HA.out)
  have hv2 := HV.out.kept (Nat.le_refl _) (fun k hk => ((hb2.block k (by have := HB.out.2; omega)).trans (HB.out.1.block k (by omega))))
  rw [show vcells K t m n b h bv kv = (vcells K t m n b h bv kv).toList.toArray by rw [Array.toArray_toList]] at hv2
  have hc := extCounts x L _ 12 W1.heap.size 300 W2 hv2 (by have := HB.out.2; omega) hA2 (by decide) (by decide) (by decide) (by decide)
  have hi26 : (Tryz.prog.info? 26).map (·.size) = some (vcells K t m n b h bv kv).toList.length := by rw [info26]; rfl
  have HI := Lib.hid (And.intro hi26 hr2)
  have HC := Lib.hid hc
  have H2 := Lib.hid (And.intro hb2 (And.intro hs2 hv2))
  clear hA2 hb2 hs2 hr2 hv2 hc hi26
  have hlt1 := HB.out.2
  have hlt2 := H2.out.2.1
  have HLT := Lib.hid (And.intro hlt1 (And.intro hlt2 hL))
  clear hlt1 hlt2 hL
  go_wp2_with (first | ((with_reducible refine wpList_at (some 4) ?_); refine wpList_load_mid rfl 26 (.tmp 1) rfl w.heap.size 0 rfl (vcells K t m n b h bv kv).toList _ HI.out.2 Tryz.underlying26 rfl HI.out.1 ?_) | ((with_reducible refine wpList_at (some 7) ?_); refine wpList_load_mid_g (by rfl) 26 (.tmp 1) rfl w.heap.size 0 rfl (vcells K t m n b h bv kv).toList _ (show Hid (World.rangeAt _ _ _ (vcells K t m n b h bv kv).toList) by assumption).out Tryz.underlying26 rfl HI.out.1 ?_) | (go_at_call 8; refine (HC.out).mono ?_; rintro e4 w4 ⟨r, rfl, ⟨l2, hl2, hyes⟩, hg⟩; have HR4 := Lib.hid (rangeAt_kept HI.out.2 (hg.block w.heap.size (by have := HLT.out; omega) (fun e => by have := HLT.out; injection e with e; omega))); have H4 := Lib.hid (And.intro hyes (And.intro (H2.out.2.2.kept (Nat.le_refl _) (fun k hk => hg.block k (by have := HLT.out; omega) (fun e => by have := HLT.out; injection e with e; omega))) (And.intro (below_grown (below_tr HB.out.1 H2.out.1) hg (fun k e => by have := HLT.out; injection e with e; omega) (by have := HLT.out; omega)) hg.size))); clear hyes hg hl2; cases r) | (go_at_call 9; refine (docRight9 x L _ _ H4.out.2.1 (by have := (H4.out.1 (by first | rfl | trivial)).2; omega) (by have := H4.out.2.2.2; have := HLT.out; omega)).mono ?_; rintro e5 w5 ⟨r5, rfl, hr5, hb5⟩; have H5 := Lib.hid (And.intro hr5 hb5); clear hr5 hb5))
  all_goals go_ret
  · exact ⟨false, rfl, fun e => absurd e (by decide), H4.out.2.2.1⟩
  · exact ⟨_, rfl, fun e => ⟨(H4.out.1 (by first | rfl | trivial)).1, H5.out.1 e, by have := (H4.out.1 (by first | rfl | trivial)).2; omega⟩, below_tr H4.out.2.2.1 H5.out.2⟩

end Go.Proofs.YtpkfdbhpmhahaaaGreatDoor
