/- writeScalarExt, kind by kind: it does what the writer's method does. -/
import Derived.Test.YtpkfdbhpmhahaaaGreatDoorGc
import Derived.Test.YtpkfdbhpmhahaaaGreatDoorGa
namespace Go.Proofs.YtpkfdbhpmhahaaaGreatDoor
open Go Go.RowKit
set_option linter.unusedSimpArgs false
set_option linter.unusedVariables false

theorem f64from (b : Int) (w : World) : (callFunc 15 #[.int .u64 b]).run Tryz.prog w = .ok (.value (.float .f64 b.toNat)) w := by
  have h := @run_callFunc_extern Tryz.prog 15 _ Extern.MathFloatBits.float64frombits Tryz.func15 (by kernel_rfl) (by kernel_rfl) (by kernel_rfl) (by kernel_rfl)
  rw [h]
  rfl
/-- It gives nil, and R holds behind. -/
def NilR (R : World → Prop) (e : Ending) (w' : World) : Prop := e = .returned .nilIface ∧ R w'

set_option maxRecDepth 100000 in
set_option maxHeartbeats 4000000 in
theorem sc1 (gw : Nat) (t q : ByteArray) (N b h : Int) (ba ka : Option Addr) (bn bc kn kc : Nat) (w : World) (R : World → Prop) (hM : ∀ W, Below w.heap.size w W → Calls Tryz.prog 53 #[.pointer (some ⟨gw, 0, none⟩), .float .f64 b.toNat] W (NilR R)) :
    Calls Tryz.prog 44 #[.pointer (some ⟨gw, 0, none⟩), .agg #[.int .i64 1, .string t, .string q, .int .i64 N, .int .u64 b, .int .u64 h, .slice ba bn bc, .slice ka kn kc]] w (NilR R) := by
  have HM := Lib.hid hM
  have HBX : Hid (Below w.heap.size w (w.alloc (.cells #[.int .i64 1, .string t, .string q, .int .i64 N, .int .u64 b, .int .u64 h, .slice ba bn bc, .slice ka kn kc] 26))) := Lib.hid ((Below.refl _ _).alloc (Nat.le_refl _) _)
  have hfb := f64from b
  clear hM
  go_enter Tryz.func44, Tryz.ntmps44
  go_wp2_with (first | (go_at_call 53; refine (HM.out _ HBX.out).mono ?_; rintro e w1 ⟨rfl, hr⟩; have HR := Lib.hid hr; clear hr))
  go_ret
  exact ⟨rfl, HR.out⟩

set_option maxRecDepth 100000 in
set_option maxHeartbeats 4000000 in
theorem sc2 (gw : Nat) (t q : ByteArray) (N b h : Int) (ba ka : Option Addr) (bn bc kn kc : Nat) (w : World) (R : World → Prop) (hM : ∀ W, Below w.heap.size w W → Calls Tryz.prog 54 #[.pointer (some ⟨gw, 0, none⟩), .string t] W (NilR R)) :
    Calls Tryz.prog 44 #[.pointer (some ⟨gw, 0, none⟩), .agg #[.int .i64 2, .string t, .string q, .int .i64 N, .int .u64 b, .int .u64 h, .slice ba bn bc, .slice ka kn kc]] w (NilR R) := by
  have HM := Lib.hid hM
  have HBX : Hid (Below w.heap.size w (w.alloc (.cells #[.int .i64 2, .string t, .string q, .int .i64 N, .int .u64 b, .int .u64 h, .slice ba bn bc, .slice ka kn kc] 26))) := Lib.hid ((Below.refl _ _).alloc (Nat.le_refl _) _)
  clear hM
  go_enter Tryz.func44, Tryz.ntmps44
  go_wp2_with (first | (go_at_call 54; refine (HM.out _ HBX.out).mono ?_; rintro e w1 ⟨rfl, hr⟩; have HR := Lib.hid hr; clear hr))
  go_ret
  exact ⟨rfl, HR.out⟩

set_option maxRecDepth 100000 in
set_option maxHeartbeats 4000000 in
theorem sc5 (gw : Nat) (t q : ByteArray) (N b h : Int) (ba ka : Option Addr) (bn bc kn kc : Nat) (w : World) (R : World → Prop) (V : Int) (hV : IntKind.u8.wrap N = V) (hM : ∀ W, Below w.heap.size w W → Calls Tryz.prog 55 #[.pointer (some ⟨gw, 0, none⟩), .slice ba bn bc, .int .u8 V] W (NilR R)) :
    Calls Tryz.prog 44 #[.pointer (some ⟨gw, 0, none⟩), .agg #[.int .i64 5, .string t, .string q, .int .i64 N, .int .u64 b, .int .u64 h, .slice ba bn bc, .slice ka kn kc]] w (NilR R) := by
  have HM := Lib.hid hM
  have HBX : Hid (Below w.heap.size w (w.alloc (.cells #[.int .i64 5, .string t, .string q, .int .i64 N, .int .u64 b, .int .u64 h, .slice ba bn bc, .slice ka kn kc] 26))) := Lib.hid ((Below.refl _ _).alloc (Nat.le_refl _) _)
  clear hM
  go_enter Tryz.func44, Tryz.ntmps44
  go_wp2_with (first | (go_at_call 55; refine (HM.out _ HBX.out).mono ?_; rintro e w1 ⟨rfl, hr⟩; have HR := Lib.hid hr; clear hr))
  go_ret
  exact ⟨rfl, HR.out⟩

set_option maxRecDepth 100000 in
set_option maxHeartbeats 4000000 in
theorem sc6 (gw : Nat) (t q : ByteArray) (N b h : Int) (ba ka : Option Addr) (bn bc kn kc : Nat) (w : World) (R : World → Prop) (hM : ∀ W, Below w.heap.size w W → Calls Tryz.prog 56 #[.pointer (some ⟨gw, 0, none⟩)] W (NilR R)) :
    Calls Tryz.prog 44 #[.pointer (some ⟨gw, 0, none⟩), .agg #[.int .i64 6, .string t, .string q, .int .i64 N, .int .u64 b, .int .u64 h, .slice ba bn bc, .slice ka kn kc]] w (NilR R) := by
  have HM := Lib.hid hM
  have HBX : Hid (Below w.heap.size w (w.alloc (.cells #[.int .i64 6, .string t, .string q, .int .i64 N, .int .u64 b, .int .u64 h, .slice ba bn bc, .slice ka kn kc] 26))) := Lib.hid ((Below.refl _ _).alloc (Nat.le_refl _) _)
  clear hM
  go_enter Tryz.func44, Tryz.ntmps44
  go_wp2_with (first | (go_at_call 56; refine (HM.out _ HBX.out).mono ?_; rintro e w1 ⟨rfl, hr⟩; have HR := Lib.hid hr; clear hr))
  go_ret
  exact ⟨rfl, HR.out⟩

set_option maxRecDepth 100000 in
set_option maxHeartbeats 4000000 in
theorem sc7 (gw : Nat) (t q : ByteArray) (N b h : Int) (ba ka : Option Addr) (bn bc kn kc : Nat) (w : World) (R : World → Prop) (X : Array Value) (h58 : ∀ W, Below w.heap.size w W → Calls Tryz.prog 58 #[.slice ba bn bc] W (fun e w' => e = .returned (.agg X) ∧ Below W.heap.size W w')) (hM : ∀ W, Below w.heap.size w W → Calls Tryz.prog 57 #[.pointer (some ⟨gw, 0, none⟩), .agg X] W (NilR R)) :
    Calls Tryz.prog 44 #[.pointer (some ⟨gw, 0, none⟩), .agg #[.int .i64 7, .string t, .string q, .int .i64 N, .int .u64 b, .int .u64 h, .slice ba bn bc, .slice ka kn kc]] w (NilR R) := by
  have HM := Lib.hid hM
  have HBX : Hid (Below w.heap.size w (w.alloc (.cells #[.int .i64 7, .string t, .string q, .int .i64 N, .int .u64 b, .int .u64 h, .slice ba bn bc, .slice ka kn kc] 26))) := Lib.hid ((Below.refl _ _).alloc (Nat.le_refl _) _)
  have H58 := Lib.hid h58
  clear h58
  clear hM
  go_enter Tryz.func44, Tryz.ntmps44
  go_wp2_with (first | (go_at_call 58; refine (H58.out _ HBX.out).mono ?_; rintro e w2 ⟨rfl, hb2⟩; have HBY := Lib.hid (HBX.out.trans (hb2.mono HBX.out.size)); clear hb2 HBX; have HBX := HBY; clear HBY) | (go_at_call 57; refine (HM.out _ HBX.out).mono ?_; rintro e w1 ⟨rfl, hr⟩; have HR := Lib.hid hr; clear hr))
  go_ret
  exact ⟨rfl, HR.out⟩

set_option maxRecDepth 100000 in
set_option maxHeartbeats 4000000 in
theorem sc8 (gw : Nat) (t q : ByteArray) (N b h : Int) (ba ka : Option Addr) (bn bc kn kc : Nat) (w : World) (R : World → Prop) (V : Bool) (hV : (N != 0) = V) (hM : ∀ W, Below w.heap.size w W → Calls Tryz.prog 59 #[.pointer (some ⟨gw, 0, none⟩), .bool V] W (NilR R)) :
    Calls Tryz.prog 44 #[.pointer (some ⟨gw, 0, none⟩), .agg #[.int .i64 8, .string t, .string q, .int .i64 N, .int .u64 b, .int .u64 h, .slice ba bn bc, .slice ka kn kc]] w (NilR R) := by
  have HM := Lib.hid hM
  have HBX : Hid (Below w.heap.size w (w.alloc (.cells #[.int .i64 8, .string t, .string q, .int .i64 N, .int .u64 b, .int .u64 h, .slice ba bn bc, .slice ka kn kc] 26))) := Lib.hid ((Below.refl _ _).alloc (Nat.le_refl _) _)
  clear hM
  go_enter Tryz.func44, Tryz.ntmps44
  go_wp2_with (first | (go_at_call 59; refine (HM.out _ HBX.out).mono ?_; rintro e w1 ⟨rfl, hr⟩; have HR := Lib.hid hr; clear hr))
  go_ret
  exact ⟨rfl, HR.out⟩

set_option maxRecDepth 100000 in
set_option maxHeartbeats 4000000 in
theorem sc9 (gw : Nat) (t q : ByteArray) (N b h : Int) (ba ka : Option Addr) (bn bc kn kc : Nat) (w : World) (R : World → Prop) (hM : ∀ W, Below w.heap.size w W → Calls Tryz.prog 60 #[.pointer (some ⟨gw, 0, none⟩), .int .i64 N] W (NilR R)) :
    Calls Tryz.prog 44 #[.pointer (some ⟨gw, 0, none⟩), .agg #[.int .i64 9, .string t, .string q, .int .i64 N, .int .u64 b, .int .u64 h, .slice ba bn bc, .slice ka kn kc]] w (NilR R) := by
  have HM := Lib.hid hM
  have HBX : Hid (Below w.heap.size w (w.alloc (.cells #[.int .i64 9, .string t, .string q, .int .i64 N, .int .u64 b, .int .u64 h, .slice ba bn bc, .slice ka kn kc] 26))) := Lib.hid ((Below.refl _ _).alloc (Nat.le_refl _) _)
  clear hM
  go_enter Tryz.func44, Tryz.ntmps44
  go_wp2_with (first | (go_at_call 60; refine (HM.out _ HBX.out).mono ?_; rintro e w1 ⟨rfl, hr⟩; have HR := Lib.hid hr; clear hr))
  go_ret
  exact ⟨rfl, HR.out⟩

set_option maxRecDepth 100000 in
set_option maxHeartbeats 4000000 in
theorem sc10 (gw : Nat) (t q : ByteArray) (N b h : Int) (ba ka : Option Addr) (bn bc kn kc : Nat) (w : World) (R : World → Prop) (hM : ∀ W, Below w.heap.size w W → Calls Tryz.prog 61 #[.pointer (some ⟨gw, 0, none⟩)] W (NilR R)) :
    Calls Tryz.prog 44 #[.pointer (some ⟨gw, 0, none⟩), .agg #[.int .i64 10, .string t, .string q, .int .i64 N, .int .u64 b, .int .u64 h, .slice ba bn bc, .slice ka kn kc]] w (NilR R) := by
  have HM := Lib.hid hM
  have HBX : Hid (Below w.heap.size w (w.alloc (.cells #[.int .i64 10, .string t, .string q, .int .i64 N, .int .u64 b, .int .u64 h, .slice ba bn bc, .slice ka kn kc] 26))) := Lib.hid ((Below.refl _ _).alloc (Nat.le_refl _) _)
  clear hM
  go_enter Tryz.func44, Tryz.ntmps44
  go_wp2_with (first | (go_at_call 61; refine (HM.out _ HBX.out).mono ?_; rintro e w1 ⟨rfl, hr⟩; have HR := Lib.hid hr; clear hr))
  go_ret
  exact ⟨rfl, HR.out⟩

set_option maxRecDepth 100000 in
set_option maxHeartbeats 4000000 in
theorem sc11 (gw : Nat) (t q : ByteArray) (N b h : Int) (ba ka : Option Addr) (bn bc kn kc : Nat) (w : World) (R : World → Prop) (hM : ∀ W, Below w.heap.size w W → Calls Tryz.prog 62 #[.pointer (some ⟨gw, 0, none⟩), .string t, .string q] W (NilR R)) :
    Calls Tryz.prog 44 #[.pointer (some ⟨gw, 0, none⟩), .agg #[.int .i64 11, .string t, .string q, .int .i64 N, .int .u64 b, .int .u64 h, .slice ba bn bc, .slice ka kn kc]] w (NilR R) := by
  have HM := Lib.hid hM
  have HBX : Hid (Below w.heap.size w (w.alloc (.cells #[.int .i64 11, .string t, .string q, .int .i64 N, .int .u64 b, .int .u64 h, .slice ba bn bc, .slice ka kn kc] 26))) := Lib.hid ((Below.refl _ _).alloc (Nat.le_refl _) _)
  clear hM
  go_enter Tryz.func44, Tryz.ntmps44
  go_wp2_with (first | (go_at_call 62; refine (HM.out _ HBX.out).mono ?_; rintro e w1 ⟨rfl, hr⟩; have HR := Lib.hid hr; clear hr))
  go_ret
  exact ⟨rfl, HR.out⟩

set_option maxRecDepth 100000 in
set_option maxHeartbeats 4000000 in
theorem sc12 (gw : Nat) (t q : ByteArray) (N b h : Int) (ba ka : Option Addr) (bn bc kn kc : Nat) (w : World) (R : World → Prop) (X : Array Value) (h58 : ∀ W, Below w.heap.size w W → Calls Tryz.prog 58 #[.slice ba bn bc] W (fun e w' => e = .returned (.agg X) ∧ Below W.heap.size W w')) (hM : ∀ W, Below w.heap.size w W → Calls Tryz.prog 63 #[.pointer (some ⟨gw, 0, none⟩), .string t, .agg X] W (NilR fun w2 => R w2 ∧ ∀ k, w.heap.size ≤ k → k < W.heap.size → w2.heap[k]? = W.heap[k]?)) :
    Calls Tryz.prog 44 #[.pointer (some ⟨gw, 0, none⟩), .agg #[.int .i64 12, .string t, .string q, .int .i64 N, .int .u64 b, .int .u64 h, .slice ba bn bc, .slice ka kn kc]] w (NilR R) := by
  have HM := Lib.hid hM
  have HBX : Hid (Below w.heap.size w (w.alloc (.cells #[.int .i64 12, .string t, .string q, .int .i64 N, .int .u64 b, .int .u64 h, .slice ba bn bc, .slice ka kn kc] 26))) := Lib.hid ((Below.refl _ _).alloc (Nat.le_refl _) _)
  have H58 := Lib.hid h58
  clear h58
  clear hM
  go_enter Tryz.func44, Tryz.ntmps44
  go_upto_region 21 with fail
  have HBD : Hid (Below w.heap.size w (w.alloc (.cells #[.int .i64 12, .string t, .string q, .int .i64 N, .int .u64 b, .int .u64 h, .slice ba bn bc, .slice ka kn kc] 26)).drew) := Lib.hid (below_drew HBX.out)
  have HNW : Hid ((w.alloc (.cells #[.int .i64 12, .string t, .string q, .int .i64 N, .int .u64 b, .int .u64 h, .slice ba bn bc, .slice ka kn kc] 26)).drew.heap[w.heap.size]? = some (.cells #[.int .i64 12, .string t, .string q, .int .i64 N, .int .u64 b, .int .u64 h, .slice ba bn bc, .slice ka kn kc] 26 (0, 0))) := Lib.hid (heap_alloc_new w (.cells #[.int .i64 12, .string t, .string q, .int .i64 N, .int .u64 b, .int .u64 h, .slice ba bn bc, .slice ka kn kc] 26))
  have HLT : Hid (w.heap.size < (w.alloc (.cells #[.int .i64 12, .string t, .string q, .int .i64 N, .int .u64 b, .int .u64 h, .slice ba bn bc, .slice ka kn kc] 26)).drew.heap.size) := Lib.hid (by show w.heap.size < (w.alloc _).heap.size; simp)
  refine wp_region_noPanic ?_
  refine wp_region_held_drew (S := fun W => W.heap[w.heap.size]? = some (.cells #[.int .i64 12, .string t, .string q, .int .i64 N, .int .u64 b, .int .u64 h, .slice ba bn bc, .slice ka kn kc] 26 (0, 0))) (by kernel_rfl) (HNW.out) (fun hHeld => ?_)
  refine takeH (i := 0) (some 67) ?vk1 rfl rfl (by kernel_rfl) (by kernel_rfl) (by kernel_rfl) (fun _ _ _ h => h) (by rfl) ?yk2 (by assumption) ?rk3
  case yk2 => intro W hSw; go_simp; all_goals with_reducible rfl
  try simp only [Act.put, List.setIfInBounds_toArray, List.set_cons_zero, List.set_cons_succ]
  refine takeH (i := 1) (some 68) ?vk4 rfl rfl (by kernel_rfl) (by kernel_rfl) (by kernel_rfl) (fun _ _ _ h => h) (by rfl) ?yk5 (by assumption) ?rk6
  case yk5 => intro W hSw; go_simp; all_goals with_reducible rfl
  try simp only [Act.put, List.setIfInBounds_toArray, List.set_cons_zero, List.set_cons_succ]
  refine takeH (i := 2) (some 69) (.string t) rfl rfl (by kernel_rfl) (by kernel_rfl) (by kernel_rfl) (fun _ _ _ h => h) (by rfl) (fun W hSw => by have hcl : W.cell? ⟨w.heap.size, 1, none⟩ = some (.string t) := (by simp only [World.cell?, hSw]; rfl); go_simp) (by assumption) ?_
  try simp only [Act.put, List.setIfInBounds_toArray, List.set_cons_zero, List.set_cons_succ]
  refine takeH (i := 3) (some 70) ?vk7 rfl rfl (by kernel_rfl) (by kernel_rfl) (by kernel_rfl) (fun _ _ _ h => h) (by rfl) ?yk8 (by assumption) ?rk9
  case yk8 => intro W hSw; go_simp; all_goals with_reducible rfl
  try simp only [Act.put, List.setIfInBounds_toArray, List.set_cons_zero, List.set_cons_succ]
  refine takeH (i := 4) (some 71) (.slice ba bn bc) rfl rfl (by kernel_rfl) (by kernel_rfl) (by kernel_rfl) (fun _ _ _ h => h) (by rfl) (fun W hSw => by have hcl : W.cell? ⟨w.heap.size, 6, none⟩ = some (.slice ba bn bc) := (by simp only [World.cell?, hSw]; rfl); go_simp) (by assumption) ?_
  try simp only [Act.put, List.setIfInBounds_toArray, List.set_cons_zero, List.set_cons_succ]
  refine wpAnyH_ready (rs := [5]) (by kernel_rfl) (by simp) ?_
  refine (AllReadyH.cons rfl (fun K hK => ?_) AllReadyH.nil)
  go_simp
  refine (H58.out _ HBD.out).mono ?_
  rintro e w2 ⟨rfl, hb2⟩
  have HBY := Lib.hid (HBD.out.trans (hb2.mono HBD.out.size))
  have hkp := (hb2.block _ HLT.out).trans HNW.out
  clear hb2
  refine hK.out _ _ (hkp) (fun hHeld => ?_)
  clear hK K
  try simp only [Act.put, List.setIfInBounds_toArray, List.set_cons_zero, List.set_cons_succ]
  refine wpAnyH_ready (rs := [6]) (by kernel_rfl) (by simp) ?_
  refine (AllReadyH.cons rfl (fun K hK => ?_) AllReadyH.nil)
  go_simp
  refine (HM.out _ HBY.out).mono ?_
  rintro e w3 ⟨rfl, hr, hkk⟩
  have HR := Lib.hid hr
  have hkp2 := (hkk w.heap.size (Nat.le_refl _) (lt_of_heap hkp)).trans hkp
  clear hr hkk
  refine hK.out _ _ (hkp2) (fun hHeld => ?_)
  clear hK K
  try simp only [Act.put, List.setIfInBounds_toArray, List.set_cons_zero, List.set_cons_succ]
  refine takeH (i := 7) (some 4) ?vk10 rfl rfl (by kernel_rfl) (by kernel_rfl) (by kernel_rfl) (fun _ _ _ h => h) (by rfl) ?yk11 (by assumption) ?rk12
  case yk11 => intro W hSw; go_simp; all_goals with_reducible rfl
  try simp only [Act.put, List.setIfInBounds_toArray, List.set_cons_zero, List.set_cons_succ]
  refine wpAnyH_done (by kernel_rfl) ?_ _
  refine NoPanic.normal ?_
  go_wp2
  go_ret
  exact ⟨rfl, HR.out⟩

set_option maxRecDepth 100000 in
set_option maxHeartbeats 4000000 in
theorem sc13 (gw : Nat) (t q : ByteArray) (N b h : Int) (ba ka : Option Addr) (bn bc kn kc : Nat) (w : World) (R : World → Prop) (hM : ∀ W, Below w.heap.size w W → Calls Tryz.prog 64 #[.pointer (some ⟨gw, 0, none⟩), .string t] W (NilR R)) :
    Calls Tryz.prog 44 #[.pointer (some ⟨gw, 0, none⟩), .agg #[.int .i64 13, .string t, .string q, .int .i64 N, .int .u64 b, .int .u64 h, .slice ba bn bc, .slice ka kn kc]] w (NilR R) := by
  have HM := Lib.hid hM
  have HBX : Hid (Below w.heap.size w (w.alloc (.cells #[.int .i64 13, .string t, .string q, .int .i64 N, .int .u64 b, .int .u64 h, .slice ba bn bc, .slice ka kn kc] 26))) := Lib.hid ((Below.refl _ _).alloc (Nat.le_refl _) _)
  clear hM
  go_enter Tryz.func44, Tryz.ntmps44
  go_wp2_with (first | (go_at_call 64; refine (HM.out _ HBX.out).mono ?_; rintro e w1 ⟨rfl, hr⟩; have HR := Lib.hid hr; clear hr))
  go_ret
  exact ⟨rfl, HR.out⟩

set_option maxRecDepth 100000 in
set_option maxHeartbeats 4000000 in
theorem sc14 (gw : Nat) (t q : ByteArray) (N b h : Int) (ba ka : Option Addr) (bn bc kn kc : Nat) (w : World) (R : World → Prop) (hM : ∀ W, Below w.heap.size w W → Calls Tryz.prog 65 #[.pointer (some ⟨gw, 0, none⟩), .string t] W (NilR R)) :
    Calls Tryz.prog 44 #[.pointer (some ⟨gw, 0, none⟩), .agg #[.int .i64 14, .string t, .string q, .int .i64 N, .int .u64 b, .int .u64 h, .slice ba bn bc, .slice ka kn kc]] w (NilR R) := by
  have HM := Lib.hid hM
  have HBX : Hid (Below w.heap.size w (w.alloc (.cells #[.int .i64 14, .string t, .string q, .int .i64 N, .int .u64 b, .int .u64 h, .slice ba bn bc, .slice ka kn kc] 26))) := Lib.hid ((Below.refl _ _).alloc (Nat.le_refl _) _)
  clear hM
  go_enter Tryz.func44, Tryz.ntmps44
  go_wp2_with (first | (go_at_call 65; refine (HM.out _ HBX.out).mono ?_; rintro e w1 ⟨rfl, hr⟩; have HR := Lib.hid hr; clear hr))
  go_ret
  exact ⟨rfl, HR.out⟩

set_option maxRecDepth 100000 in
set_option maxHeartbeats 4000000 in
theorem sc16 (gw : Nat) (t q : ByteArray) (N b h : Int) (ba ka : Option Addr) (bn bc kn kc : Nat) (w : World) (R : World → Prop) (V : Int) (hV : IntKind.i32.wrap N = V) (hM : ∀ W, Below w.heap.size w W → Calls Tryz.prog 66 #[.pointer (some ⟨gw, 0, none⟩), .int .i32 V] W (NilR R)) :
    Calls Tryz.prog 44 #[.pointer (some ⟨gw, 0, none⟩), .agg #[.int .i64 16, .string t, .string q, .int .i64 N, .int .u64 b, .int .u64 h, .slice ba bn bc, .slice ka kn kc]] w (NilR R) := by
  have HM := Lib.hid hM
  have HBX : Hid (Below w.heap.size w (w.alloc (.cells #[.int .i64 16, .string t, .string q, .int .i64 N, .int .u64 b, .int .u64 h, .slice ba bn bc, .slice ka kn kc] 26))) := Lib.hid ((Below.refl _ _).alloc (Nat.le_refl _) _)
  clear hM
  go_enter Tryz.func44, Tryz.ntmps44
  go_wp2_with (first | (go_at_call 66; refine (HM.out _ HBX.out).mono ?_; rintro e w1 ⟨rfl, hr⟩; have HR := Lib.hid hr; clear hr))
  go_ret
  exact ⟨rfl, HR.out⟩

set_option maxRecDepth 100000 in
set_option maxHeartbeats 4000000 in
theorem sc17 (gw : Nat) (t q : ByteArray) (N b h : Int) (ba ka : Option Addr) (bn bc kn kc : Nat) (w : World) (R : World → Prop) (V V2 V0 : Int) (hV0 : b / 4294967296 = V0) (hV : IntKind.u32.wrap V0 = V) (hV2 : IntKind.u32.wrap b = V2) (hM : ∀ W, Below w.heap.size w W → Calls Tryz.prog 67 #[.pointer (some ⟨gw, 0, none⟩), .int .u32 V, .int .u32 V2] W (NilR R)) :
    Calls Tryz.prog 44 #[.pointer (some ⟨gw, 0, none⟩), .agg #[.int .i64 17, .string t, .string q, .int .i64 N, .int .u64 b, .int .u64 h, .slice ba bn bc, .slice ka kn kc]] w (NilR R) := by
  have HM := Lib.hid hM
  have HBX : Hid (Below w.heap.size w (w.alloc (.cells #[.int .i64 17, .string t, .string q, .int .i64 N, .int .u64 b, .int .u64 h, .slice ba bn bc, .slice ka kn kc] 26))) := Lib.hid ((Below.refl _ _).alloc (Nat.le_refl _) _)
  clear hM
  go_enter Tryz.func44, Tryz.ntmps44
  go_wp2_with (first | (go_at_call 67; refine (HM.out _ HBX.out).mono ?_; rintro e w1 ⟨rfl, hr⟩; have HR := Lib.hid hr; clear hr))
  go_ret
  exact ⟨rfl, HR.out⟩

set_option maxRecDepth 100000 in
set_option maxHeartbeats 4000000 in
theorem sc18 (gw : Nat) (t q : ByteArray) (N b h : Int) (ba ka : Option Addr) (bn bc kn kc : Nat) (w : World) (R : World → Prop) (hM : ∀ W, Below w.heap.size w W → Calls Tryz.prog 68 #[.pointer (some ⟨gw, 0, none⟩), .int .i64 N] W (NilR R)) :
    Calls Tryz.prog 44 #[.pointer (some ⟨gw, 0, none⟩), .agg #[.int .i64 18, .string t, .string q, .int .i64 N, .int .u64 b, .int .u64 h, .slice ba bn bc, .slice ka kn kc]] w (NilR R) := by
  have HM := Lib.hid hM
  have HBX : Hid (Below w.heap.size w (w.alloc (.cells #[.int .i64 18, .string t, .string q, .int .i64 N, .int .u64 b, .int .u64 h, .slice ba bn bc, .slice ka kn kc] 26))) := Lib.hid ((Below.refl _ _).alloc (Nat.le_refl _) _)
  clear hM
  go_enter Tryz.func44, Tryz.ntmps44
  go_wp2_with (first | (go_at_call 68; refine (HM.out _ HBX.out).mono ?_; rintro e w1 ⟨rfl, hr⟩; have HR := Lib.hid hr; clear hr))
  go_ret
  exact ⟨rfl, HR.out⟩

set_option maxRecDepth 100000 in
set_option maxHeartbeats 4000000 in
theorem sc19 (gw : Nat) (t q : ByteArray) (N b h : Int) (ba ka : Option Addr) (bn bc kn kc : Nat) (w : World) (R : World → Prop) (hM : ∀ W, Below w.heap.size w W → Calls Tryz.prog 69 #[.pointer (some ⟨gw, 0, none⟩), .agg #[.int .u64 h, .int .u64 b]] W (NilR R)) :
    Calls Tryz.prog 44 #[.pointer (some ⟨gw, 0, none⟩), .agg #[.int .i64 19, .string t, .string q, .int .i64 N, .int .u64 b, .int .u64 h, .slice ba bn bc, .slice ka kn kc]] w (NilR R) := by
  have HM := Lib.hid hM
  have HBX : Hid (Below w.heap.size w (w.alloc (.cells #[.int .i64 19, .string t, .string q, .int .i64 N, .int .u64 b, .int .u64 h, .slice ba bn bc, .slice ka kn kc] 26))) := Lib.hid ((Below.refl _ _).alloc (Nat.le_refl _) _)
  clear hM
  go_enter Tryz.func44, Tryz.ntmps44
  go_wp2_with (first | (go_at_call 70; refine (newDec _ _ _).mono ?_; rintro e w2 ⟨rfl, hb2⟩; have HBY := Lib.hid (HBX.out.trans (hb2.mono HBX.out.size)); clear hb2 HBX; have HBX := HBY; clear HBY) | (go_at_call 69; refine (HM.out _ HBX.out).mono ?_; rintro e w1 ⟨rfl, hr⟩; have HR := Lib.hid hr; clear hr))
  go_ret
  exact ⟨rfl, HR.out⟩

set_option maxRecDepth 100000 in
set_option maxHeartbeats 4000000 in
theorem sc255 (gw : Nat) (t q : ByteArray) (N b h : Int) (ba ka : Option Addr) (bn bc kn kc : Nat) (w : World) (R : World → Prop) (hM : ∀ W, Below w.heap.size w W → Calls Tryz.prog 71 #[.pointer (some ⟨gw, 0, none⟩)] W (NilR R)) :
    Calls Tryz.prog 44 #[.pointer (some ⟨gw, 0, none⟩), .agg #[.int .i64 255, .string t, .string q, .int .i64 N, .int .u64 b, .int .u64 h, .slice ba bn bc, .slice ka kn kc]] w (NilR R) := by
  have HM := Lib.hid hM
  have HBX : Hid (Below w.heap.size w (w.alloc (.cells #[.int .i64 255, .string t, .string q, .int .i64 N, .int .u64 b, .int .u64 h, .slice ba bn bc, .slice ka kn kc] 26))) := Lib.hid ((Below.refl _ _).alloc (Nat.le_refl _) _)
  clear hM
  go_enter Tryz.func44, Tryz.ntmps44
  go_wp2_with (first | (go_at_call 71; refine (HM.out _ HBX.out).mono ?_; rintro e w1 ⟨rfl, hr⟩; have HR := Lib.hid hr; clear hr))
  go_ret
  exact ⟨rfl, HR.out⟩

set_option maxRecDepth 100000 in
set_option maxHeartbeats 4000000 in
theorem sc127 (gw : Nat) (t q : ByteArray) (N b h : Int) (ba ka : Option Addr) (bn bc kn kc : Nat) (w : World) (R : World → Prop) (hM : ∀ W, Below w.heap.size w W → Calls Tryz.prog 72 #[.pointer (some ⟨gw, 0, none⟩)] W (NilR R)) :
    Calls Tryz.prog 44 #[.pointer (some ⟨gw, 0, none⟩), .agg #[.int .i64 127, .string t, .string q, .int .i64 N, .int .u64 b, .int .u64 h, .slice ba bn bc, .slice ka kn kc]] w (NilR R) := by
  have HM := Lib.hid hM
  have HBX : Hid (Below w.heap.size w (w.alloc (.cells #[.int .i64 127, .string t, .string q, .int .i64 N, .int .u64 b, .int .u64 h, .slice ba bn bc, .slice ka kn kc] 26))) := Lib.hid ((Below.refl _ _).alloc (Nat.le_refl _) _)
  clear hM
  go_enter Tryz.func44, Tryz.ntmps44
  go_wp2_with (first | (go_at_call 72; refine (HM.out _ HBX.out).mono ?_; rintro e w1 ⟨rfl, hr⟩; have HR := Lib.hid hr; clear hr))
  go_ret
  exact ⟨rfl, HR.out⟩

end Go.Proofs.YtpkfdbhpmhahaaaGreatDoor
