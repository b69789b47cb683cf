/- extMarks, by its contract. -/
import Derived.Test.YtdabllkphibfmaaGreatDoorGm
import Derived.Deep.RegionWith
namespace Go.Proofs.YtdabllkphibfmaaGreatDoor
open Go Go.RowKit PFnExtTokens Go.Proofs.YtdabllkphibfmaaGreatDoorW.PrintWords
set_option linter.unusedSimpArgs false
set_option linter.unusedVariables false

theorem info41 : (Tryz.prog.info? 41).map (fun i => (i.zero, i.size, i.bytes)) = some (some (.agg #[.int .i64 0, .string ⟨#[]⟩, .string ⟨#[]⟩, .int .i64 0]), 4, 48) := by kernel_rfl

/-- A mark, as its cells. -/
def mkCells (m : Mk) : List Value := [.int .i64 m.kind, .string ⟨m.body.toArray⟩, .string ⟨m.text.toArray⟩, .int .i64 m.n]

theorem mkCells_oneCell (m : Mk) : ∀ v ∈ mkCells m, v.oneCell' = true := by
  intro v hv
  simp only [mkCells, List.mem_cons, List.not_mem_nil, or_false] at hv
  rcases hv with rfl | rfl | rfl | rfl <;> rfl

def Kd.u32 (x : Int) : Prop := 0 ≤ x ∧ x ≤ 4294967295

/-- The eight words, as values. -/
def wordVs : List Value := [.string ⟨#[]⟩, .string ⟨#[97]⟩, .string ⟨#[116, 114, 117, 101]⟩, .string ⟨#[195, 169]⟩, .string ⟨#[34]⟩, .string ⟨#[92, 32, 47]⟩, .string ⟨#[10]⟩, .string ⟨#[120, 32, 121]⟩]

def MX (B : Nat) (w : World) (n : Nat) (m : Nat) (v i : Value) (wx : World) : Prop :=
  ∃ ms : List Mk, (∀ x ∈ ms, IsMk x) ∧ ms.length ≤ n ∧ m = n - ms.length ∧ i = .int .i64 ms.length ∧ wx.ownsRow (B + 1) 41 4 v ms.length (ms.flatMap mkCells) ∧ Below B w wx ∧ wx.heap[B]? = some (.cells wordVs.toArray 9 (0, 0))

theorem below_one (wr : World) (o : Obj) : Below wr.heap.size wr (wr.alloc o) := (Below.refl _ wr).alloc (Nat.le_refl _) _

theorem dec_calls (z : Int) (w : World) (h : -1000000000000000000 ≤ z ∧ z ≤ 1000000000000000000) : Calls Tryz.prog 23 #[.int .i64 z] w fun e w' => e = .returned (.string ⟨(decB z).toArray⟩) ∧ Below w.heap.size w w' :=
  laws_decNumber.calls 21 z _ w (dec_ok z h.1 h.2)

theorem below_cell1 {wr w9 : World} {c0 c1 c2 c3 : Value} (h : Below (wr.alloc (.cells #[c0, c1, c2, c3] 41 (0, 0))).heap.size (wr.alloc (.cells #[c0, c1, c2, c3] 41 (0, 0))) w9) : w9.heap[wr.heap.size]? = some (.cells #[c0, c1, c2, c3] 41 (0, 0)) := by
  rw [h.block wr.heap.size (by simp)]
  exact heap_alloc_new _ _

theorem cell_of_block {w : World} {g : Nat} {l : List Value} {t : Nat} {p : Nat × Nat} (h : w.heap[g]? = some (.cells l.toArray t p)) (j : Nat) : w.cell? ⟨g, j, none⟩ = l[j]? := by
  simp [World.cell?, h]

theorem mk_call {wr w9 : World} {o : Obj} {c0 c2 c3 : Value} (v : Value) (hh : w9.heap[wr.heap.size]? = some (.cells #[c0, .string ⟨#[]⟩, c2, c3] 41 (0, 0))) (hb : Below (wr.alloc o).heap.size (wr.alloc o) w9) (m : Mk) (hm : IsMk m) (e : #[c0, v, c2, c3] = (mkCells m).toArray) :
    ∃ m : Mk, IsMk m ∧ (w9.setCell ⟨wr.heap.size, 1, none⟩ v).heap[wr.heap.size]? = some (.cells (mkCells m).toArray 41 (0, 0)) ∧ Below wr.heap.size wr (w9.setCell ⟨wr.heap.size, 1, none⟩ v) := by
  refine ⟨m, hm, ?_, ((below_one wr o).trans (hb.mono (by simp))).setCell (by simp) _⟩
  rw [heap_set hh, ← e]
  rfl

theorem wrap32_in (z : Int) : -2147483648 ≤ wrap32 z ∧ wrap32 z ≤ 2147483647 := by
  unfold wrap32
  omega

theorem wrap6432 (z : Int) : wrap64 (wrap32 z) = wrap32 z := by
  have := wrap32_in z
  exact wrap64_id (by omega) (by omega)

theorem k6_end {wr w9 : World} {o : Obj} (z : Int) (hz : -2147483648 ≤ z ∧ z ≤ 2147483647) (hh : w9.heap[wr.heap.size]? = some (.cells #[.int .i64 6, .string ⟨#[]⟩, .string ⟨#[]⟩, .int .i64 z] 41 (0, 0))) (hb : Below (wr.alloc o).heap.size (wr.alloc o) w9) :
    ∃ m : Mk, IsMk m ∧ (w9.setCell ⟨wr.heap.size, 1, none⟩ (.string ⟨(decB z).toArray⟩)).heap[wr.heap.size]? = some (.cells (mkCells m).toArray 41 (0, 0)) ∧ Below wr.heap.size wr (w9.setCell ⟨wr.heap.size, 1, none⟩ (.string ⟨(decB z).toArray⟩)) :=
  mk_call _ hh hb ⟨6, decB z, [], z⟩ (.i32 z hz) rfl

theorem k7_end {wr w9 : World} {o : Obj} (z : Int) (hz : z < -2147483648 ∨ 2147483647 < z) (hz2 : -1000000000000000000 ≤ z ∧ z ≤ 1000000000000000000) (hh : w9.heap[wr.heap.size]? = some (.cells #[.int .i64 7, .string ⟨#[]⟩, .string ⟨#[]⟩, .int .i64 z] 41 (0, 0))) (hb : Below (wr.alloc o).heap.size (wr.alloc o) w9) :
    ∃ m : Mk, IsMk m ∧ (w9.setCell ⟨wr.heap.size, 1, none⟩ (.string ⟨(decB z).toArray⟩)).heap[wr.heap.size]? = some (.cells (mkCells m).toArray 41 (0, 0)) ∧ Below wr.heap.size wr (w9.setCell ⟨wr.heap.size, 1, none⟩ (.string ⟨(decB z).toArray⟩)) :=
  mk_call _ hh hb ⟨7, decB z, [], z⟩ (.i64 z hz hz2) rfl

theorem blk_after {W w9 : World} {g : Nat} {o : Obj} (hb : Below W.heap.size W w9) (hW : W.heap[g]? = some o) : w9.heap[g]? = some o := by
  refine (hb.block g ?_).trans hW
  exact (Array.getElem?_eq_some_iff.1 hW).1

theorem dec_calls' (z : Int) (w : World) (h : -1000000 ≤ z ∧ z ≤ 1000000) : Calls Tryz.prog 23 #[.int .i64 z] w fun e w' => (∃ s : ByteArray, e = .returned (.string s) ∧ s.size ≤ 20 ∧ Hid (s = ⟨(decB z).toArray⟩)) ∧ Below w.heap.size w w' := by
  refine (dec_calls z w (by omega)).mono ?_
  rintro e w' ⟨rfl, hb⟩
  have := decB_len z (by omega)
  exact ⟨⟨_, rfl, by simpa [ByteArray.size] using this, Lib.hid rfl⟩, hb⟩

theorem below_d {B : Nat} {a w : World} (h : Below B a w) : Below B a w.drew := ⟨h.os, h.tape, h.output, h.size, h.block⟩
theorem below_two (wr : World) (o o2 : Obj) : Below wr.heap.size wr ((wr.alloc o).alloc o2) := (below_one wr o).alloc (by simp) _
theorem below_via {W wr w9 : World} (h : Below W.heap.size W w9) (h1 : Below wr.heap.size wr W) : Below wr.heap.size wr w9 := h1.trans (h.mono h1.size)

theorem k8_b {wr w9 : World} {s9 fb : ByteArray} {z : Int} {fr : List UInt8} (hfb : fb = ⟨fr.toArray⟩) (hf : fr ∈ fracs) (hz : -10000 ≤ z ∧ z ≤ 10000) (hs : s9 = ⟨(decB z).toArray⟩) (hh : w9.heap[wr.heap.size]? = some (.cells #[.int .i64 8, .string ⟨#[]⟩, .string ⟨#[]⟩, .int .i64 z] 41 (0, 0))) (hb : Below wr.heap.size wr w9) :
    ∃ m : Mk, IsMk m ∧ (w9.setCell ⟨wr.heap.size, 1, none⟩ (.string (s9 ++ ⟨#[46]⟩ ++ fb))).heap[wr.heap.size]? = some (.cells (mkCells m).toArray 41 (0, 0)) ∧ Below wr.heap.size wr (w9.setCell ⟨wr.heap.size, 1, none⟩ (.string (s9 ++ ⟨#[46]⟩ ++ fb))) := by
  subst hs hfb
  have e : (⟨(decB z).toArray⟩ ++ ⟨#[46]⟩ ++ ⟨fr.toArray⟩ : ByteArray) = ⟨(decB z ++ 46 :: fr).toArray⟩ := by
    apply ByteArray.ext
    simp
  rw [e]
  refine ⟨⟨8, decB z ++ 46 :: fr, [], z⟩, .dbl z hz fr hf, ?_, hb.setCell (Nat.le_refl _) _⟩
  rw [heap_set hh]
  rfl

theorem k8_a {wr w9 : World} {o : Obj} {s9 fb : ByteArray} {z : Int} {fr : List UInt8} (hfb : fb = ⟨fr.toArray⟩) (hf : fr ∈ fracs) (hz : -10000 ≤ z ∧ z ≤ 10000) (hs : s9 = ⟨(decB z).toArray⟩) (hh : w9.heap[wr.heap.size]? = some (.cells #[.int .i64 8, .string ⟨#[]⟩, .string ⟨#[]⟩, .int .i64 z] 41 (0, 0))) (hb : Below wr.heap.size wr w9) :
    ∃ m : Mk, IsMk m ∧ ((w9.setCell ⟨wr.heap.size, 1, none⟩ (.string (s9 ++ ⟨#[46]⟩ ++ fb))).alloc o).heap[wr.heap.size]? = some (.cells (mkCells m).toArray 41 (0, 0)) ∧ Below wr.heap.size wr ((w9.setCell ⟨wr.heap.size, 1, none⟩ (.string (s9 ++ ⟨#[46]⟩ ++ fb))).alloc o) := by
  obtain ⟨m, h1, h2, h3⟩ := k8_b hfb hf hz hs hh hb
  have hlt : wr.heap.size < (w9.setCell ⟨wr.heap.size, 1, none⟩ (.string (s9 ++ ⟨#[46]⟩ ++ fb))).heap.size := (Array.getElem?_eq_some_iff.1 h2).1
  exact ⟨m, h1, (Below.heap_alloc _ _ _ hlt).trans h2, h3.alloc h3.size _⟩

theorem k9_end {wr w9 : World} (e t : List UInt8) (hq : (e, t) ∈ quos) (hh : w9.heap[wr.heap.size]? = some (.cells #[.int .i64 9, .string ⟨#[]⟩, .string ⟨t.toArray⟩, .int .i64 0] 41 (0, 0))) (hb : Below wr.heap.size wr w9) :
    ∃ m : Mk, IsMk m ∧ (w9.setCell ⟨wr.heap.size, 1, none⟩ (.string ⟨e.toArray⟩)).heap[wr.heap.size]? = some (.cells (mkCells m).toArray 41 (0, 0)) ∧ Below wr.heap.size wr (w9.setCell ⟨wr.heap.size, 1, none⟩ (.string ⟨e.toArray⟩)) := by
  refine ⟨⟨9, e, t, 0⟩, .str (e, t) hq, ?_, hb.setCell (Nat.le_refl _) _⟩
  rw [heap_set hh]
  rfl

theorem blk_kept {w w' : World} {g : Nat} {o : Obj} (h : w.heap[g]? = some o) (hb : Below w.heap.size w w') : w'.heap[g]? = some o := (hb.block g (lt_of_heap h)).trans h

theorem row_below {B : Nat} {e : TypeId} {k : Nat} {v : Value} {n : Nat} {xs : List Value} {w w' : World} (h : w.ownsRow B e k v n xs) (hb : Below w.heap.size w w') : w'.ownsRow B e k v n xs :=
  h.kept (row := none) ⟨hb.os, hb.tape, hb.output, hb.size, fun j hj _ => hb.block j hj⟩ (by cases hv : v.ownBlock <;> simp)

theorem mx_step {B : Nat} {w wc w3 : World} {n : Nat} {ms : List Mk} {v : Value} {o : Obj} {m : Mk} {gg cap : Nat} {cs : List Value} (hB : B = w.heap.size) (hms : ∀ x ∈ ms, IsMk x) (hm : IsMk m) (hlt : ms.length < n)
    (hown : wc.ownsRow (B + 1) 41 4 v ms.length (ms.flatMap mkCells)) (hbel : Below B w wc) (hwd : wc.heap[B]? = some (.cells wordVs.toArray 9 (0, 0)))
    (ho : w3.ownsRow (B + 1) 41 4 (.slice (some ⟨gg, 0, none⟩) (ms.length + 1) cap) (ms.length + 1) (ms.flatMap mkCells ++ cs)) (hg : (wc.alloc o).grownBy w3 v.ownBlock) (hcs : cs = mkCells m) :
    MX B w n (n - (ms.length + 1)) (.slice (some ⟨gg, 0, none⟩) (ms.length + 1) cap) (.int .i64 (ms.length + 1)) w3 := by
  subst hcs hB
  have hblt : w.heap.size < wc.heap.size := lt_of_heap hwd
  refine ⟨ms ++ [m], ?_, by simp; omega, by simp, by simp, ?_, ?_, ?_⟩
  · intro x hx
    rcases List.mem_append.1 hx with h | h
    · exact hms x h
    · rw [List.mem_singleton.1 h]; exact hm
  · rw [List.flatMap_append]
    simpa using ho
  · exact (hbel.alloc hbel.size _).grown hg (by simp; omega) (fun q hq => by have := (hown.lt q hq).1; omega)
  · rw [hg.block _ (by simp; omega) (fun h => by have := (hown.lt _ h.symm).1; omega), Below.heap_alloc _ _ _ hblt, hwd]

theorem tmod12 {n K : Nat} (hK : K < 12) (hx : 12 * n + K < 4294967296) : Int.tmod ((12 * n + K : Nat) : Int) 12 = (K : Nat) := by
  rw [Int.tmod_eq_emod_of_nonneg (by omega)]; omega
theorem tdiv12 {n K : Nat} (hK : K < 12) (hx : 12 * n + K < 4294967296) : Int.tdiv ((12 * n + K : Nat) : Int) 12 = (n : Nat) := by
  rw [Int.tdiv_eq_ediv_of_nonneg (by omega)]; omega

theorem u32_at {L : List Int} {A : Option Addr} {w wr : World} (hA : ReadsInt w .u32 A L.length L) (hL : ∀ x ∈ L, Kd.u32 x) (hb : Below w.heap.size w wr) (k : Nat) (hk : k < L.length) :
    ∃ x : Nat, x < 4294967296 ∧ ∃ a, A = some a ∧ wr.cell? (a.add k) = some (.int .u32 x) := by
  obtain ⟨a, rfl, hc⟩ := (hA.below hb).2.2 (by omega)
  have hr := hL _ (List.getElem_mem hk)
  have hc := hc k hk
  have e : L.getD k 0 = (((L[k]'hk).toNat : Nat) : Int) := by
    rw [List.getD_eq_getElem?_getD, List.getElem?_eq_getElem hk]
    have := hr.1
    simp only [Option.getD_some]
    omega
  rw [e] at hc
  exact ⟨(L[k]'hk).toNat, by have := hr.2; have := hr.1; omega, a, rfl, hc⟩

theorem frac_at (j : Nat) (hj : j < 4) : ∃ fr : List UInt8, fr ∈ fracs ∧ (#[.string ⟨#[48]⟩, .string ⟨#[53]⟩, .string ⟨#[50, 53]⟩, .string ⟨#[48, 48]⟩] : Array Value)[j]? = some (.string ⟨fr.toArray⟩) := by
  match j, hj with
  | 0, _ => exact ⟨[48], by decide, rfl⟩
  | 1, _ => exact ⟨[53], by decide, rfl⟩
  | 2, _ => exact ⟨[50, 53], by decide, rfl⟩
  | 3, _ => exact ⟨[48, 48], by decide, rfl⟩

theorem frac_len {fr : List UInt8} (h : fr ∈ fracs) : (⟨fr.toArray⟩ : ByteArray).size ≤ 2 := by
  have all : ∀ fr ∈ fracs, (⟨fr.toArray⟩ : ByteArray).size ≤ 2 := by decide
  exact all fr h

theorem cell_of_arr {w : World} {g : Nat} {l : Array Value} {t : Nat} {p : Nat × Nat} (h : w.heap[g]? = some (.cells l t p)) (j : Nat) : w.cell? ⟨g, j, none⟩ = l[j]? := by
  simp [World.cell?, h]

set_option maxRecDepth 1000000 in
set_option maxHeartbeats 40000000 in
theorem extMarks (L : List Int) (A : Option Addr) (c : Nat) (w : World) (hA : ReadsInt w .u32 A L.length L) (hL : ∀ x ∈ L, Kd.u32 x) (hl : L.length ≤ 100) :
    Calls Tryz.prog 12 #[.slice A L.length c] w fun e w' => ∃ (ms : List Mk) (v : Value), e = .returned v ∧ (∀ x ∈ ms, IsMk x) ∧ ms.length = L.length ∧ w'.ownsRow (w.heap.size + 1) 41 4 v ms.length (ms.flatMap mkCells) ∧ Below w.heap.size w w' := by
  have HA := Lib.hid hA
  have HL := Lib.hid hL
  clear hA hL
  have hB0 : w.heap.size ≤ w.heap.size := Nat.le_refl _
  obtain ⟨i0, hi0, hz0, hz1, hz2⟩ := info_parts info41
  go_enter Tryz.func12, Tryz.ntmps12
  go_wp2
  go_loopg [4, 11] L.length (fun m v i wx => Aside (MX w.heap.size w L.length m v i wx))
  case atStart =>
    exact ⟨[], by simp, by simp, by simp, rfl, World.ownsRow_nil _ _ _ _, (Below.refl _ w).alloc (Nat.le_refl _) _, heap_alloc_new _ _⟩
  case round =>
    obtain ⟨ms, hms, hlen, rfl, rfl, hown, hbel, hwd⟩ := hrel.out
    clear hrel
    have HOWN := Lib.hid hown
    have HBEL := Lib.hid hbel
    have HWD := Lib.hid hwd
    clear hown hbel hwd
    by_cases hk : ms.length < L.length
    · obtain ⟨x, hx, hcell⟩ := u32_at HA.out HL.out HBEL.out ms.length hk
      obtain ⟨a, rfl, hcell⟩ := hcell
      obtain ⟨n, K, hK, rfl⟩ : ∃ n K : Nat, K < 12 ∧ x = 12 * n + K := ⟨x / 12, x % 12, by omega, by omega⟩
      have hm := tmod12 hK hx
      have hq := tdiv12 hK hx
      go_upto_block 2 with fail
      have e1 : ((12 * (n : Int) + (K : Int)) / 12) = n := by omega
      have e2 : (K : Int) % 12 = K := by omega
      simp only [e1, e2]
      go_cut [] (fun wx => ∃ m : Mk, IsMk m ∧ wx.heap[wr.heap.size]? = some (.cells (mkCells m).toArray 41 (0, 0)) ∧ Below wr.heap.size wr wx)
      case first =>
        rcases Nat.lt_or_ge K 6 with h6 | h6
        · match K, h6 with
          | 0, _ => as_aux_lemma => (go_wp2_with fail; go_meet; exact ⟨_, .pun 0 (by decide), heap_alloc_new _ _, below_one wr _⟩)
          | 1, _ => as_aux_lemma => (go_wp2_with fail; go_meet; exact ⟨_, .pun 1 (by decide), heap_alloc_new _ _, below_one wr _⟩)
          | 2, _ => as_aux_lemma => (go_wp2_with fail; go_meet; exact ⟨_, .pun 2 (by decide), heap_alloc_new _ _, below_one wr _⟩)
          | 3, _ => as_aux_lemma => (go_wp2_with fail; go_meet; exact ⟨_, .pun 3 (by decide), heap_alloc_new _ _, below_one wr _⟩)
          | 4, _ => as_aux_lemma => (go_wp2_with fail; go_meet; exact ⟨_, .pun 4 (by decide), heap_alloc_new _ _, below_one wr _⟩)
          | 5, _ => as_aux_lemma => (go_wp2_with fail; go_meet; exact ⟨_, .pun 5 (by decide), heap_alloc_new _ _, below_one wr _⟩)
        · obtain rfl | rfl | rfl | rfl | rfl | rfl : K = 6 ∨ K = 7 ∨ K = 8 ∨ K = 9 ∨ K = 10 ∨ K = 11 := by omega
          · as_aux_lemma =>
            go_wp2_with (first | (go_at_call 23; refine (dec_calls _ _ ?hbd).mono ?_; (case hbd => rw [wrap6432]; have := wrap32_in (bits BinOp.xor IntKind.u32 ((n : Int) * 2654435761 % 4294967296) ((n : Int) * 128 % 4294967296)); omega); rintro e w9 ⟨rfl, hb9⟩; have hc9 := below_cell1 hb9; obtain ⟨d0, d1, d2, d3, df⟩ := cell4 hc9; have HB9 := Lib.hid hb9; have HC9 := Lib.hid hc9; clear hc9 hb9))
            go_meet
            exact k6_end _ (by rw [wrap6432]; exact wrap32_in _) HC9.out HB9.out
          · have hp : ((n : Int) % 2 == 1) = true ∨ ((n : Int) % 2 == 1) = false := by cases ((n : Int) % 2 == 1) <;> simp
            rcases hp with hp | hp
            · as_aux_lemma =>
              go_wp2_with (first | (go_at_call 23; refine (dec_calls _ _ ?hbd).mono ?_; (case hbd => omega); rintro e w9 ⟨rfl, hb9⟩; have hc9 := below_cell1 hb9; obtain ⟨d0, d1, d2, d3, df⟩ := cell4 hc9; have HB9 := Lib.hid hb9; have HC9 := Lib.hid hc9; clear hc9 hb9))
              go_meet
              exact k7_end _ (by omega) (by omega) HC9.out HB9.out
            · as_aux_lemma =>
              go_wp2_with (first | (go_at_call 23; refine (dec_calls _ _ ?hbd).mono ?_; (case hbd => omega); rintro e w9 ⟨rfl, hb9⟩; have hc9 := below_cell1 hb9; obtain ⟨d0, d1, d2, d3, df⟩ := cell4 hc9; have HB9 := Lib.hid hb9; have HC9 := Lib.hid hc9; clear hc9 hb9))
              go_meet
              exact k7_end _ (by omega) (by omega) HC9.out HB9.out
          · as_aux_lemma =>
            obtain ⟨j, hj⟩ : ∃ j : Nat, j = n % 4 := ⟨_, rfl⟩
            have hj4 : j < 4 := by omega
            have h4 : (n : Int) % 4 = (j : Nat) := by omega
            have h4t : Int.tmod (n : Int) 4 = (j : Nat) := by rw [Int.tmod_eq_emod_of_nonneg (by omega)]; exact h4
            obtain ⟨fr, hfr, hfq⟩ : ∃ fr : List UInt8, fr ∈ fracs ∧ (#[.string ⟨#[48]⟩, .string ⟨#[53]⟩, .string ⟨#[50, 53]⟩, .string ⟨#[48, 48]⟩] : Array Value)[j]? = some (.string ⟨fr.toArray⟩) := frac_at j hj4
            clear hj
            obtain ⟨fb, hfb⟩ : ∃ fb : ByteArray, fb = ⟨fr.toArray⟩ := ⟨_, rfl⟩
            rw [← hfb] at hfq
            have hfq2 : ([.string ⟨#[48]⟩, .string ⟨#[53]⟩, .string ⟨#[50, 53]⟩, .string ⟨#[48, 48]⟩] : List Value)[j]'(by simpa using hj4) = .string fb := by
              have h := hfq
              simp only [List.getElem?_toArray] at h
              rw [List.getElem?_eq_getElem (by simpa using hj4)] at h
              exact Option.some.inj h
            have hfs : fb.size ≤ 2 := by rw [hfb]; exact frac_len hfr
            have HFB := Lib.hid hfb
            clear hfb
            go_wp2_with fail
            go_region_with (first | (go_at_call 23; refine (dec_calls' _ _ ?hbd).mono ?_; (case hbd => omega); rintro e w9 ⟨⟨s9, rfl, hs9z, HS9⟩, hb9⟩; first | (have hs9 := blk_after (g := wr.heap.size + 1) hb9 (heap_alloc_new' _ _ (by simp)); have hc9 := blk_after (g := wr.heap.size) hb9 ((Below.heap_alloc _ _ _ (by simp)).trans (heap_alloc_new _ _)); have q0 := cell_of_arr hs9 j; rw [hfq] at q0; have HB9 := Lib.hid (below_via hb9 (by first | exact below_two _ _ _ | exact below_d (below_two _ _ _))); have hlt9 : wr.heap.size + 1 < w9.heap.size := lt_of_heap hs9; obtain ⟨d0, d1, d2, d3, df⟩ := cell4 hc9; have HC9 := Lib.hid hc9; clear hc9 hb9 hs9) | (have hc9 := blk_after (g := wr.heap.size) hb9 (heap_alloc_new _ _); have HB9 := Lib.hid (below_via hb9 (by first | exact below_one _ _ | exact below_d (below_one _ _))); have hlt9 : wr.heap.size < w9.heap.size := lt_of_heap hc9; obtain ⟨d0, d1, d2, d3, df⟩ := cell4 hc9; have HC9 := Lib.hid hc9; clear hc9 hb9)))
            all_goals (go_wp2_with fail; go_meet; first | exact k8_b HFB.out hfr (by omega) HS9.out HC9.out HB9.out | exact k8_a HFB.out hfr (by omega) HS9.out HC9.out HB9.out)
          · have h8 : (n : Int) % 8 = 0 ∨ (n : Int) % 8 = 1 ∨ (n : Int) % 8 = 2 ∨ (n : Int) % 8 = 3 ∨ (n : Int) % 8 = 4 ∨ (n : Int) % 8 = 5 ∨ (n : Int) % 8 = 6 ∨ (n : Int) % 8 = 7 := by omega
            have wc := cell_of_block HWD.out
            have wc0 := wc 0
            have wc1 := wc 1
            have wc2 := wc 2
            have wc3 := wc 3
            have wc4 := wc 4
            have wc5 := wc 5
            have wc6 := wc 6
            have wc7 := wc 7
            clear wc
            simp [wordVs] at wc0 wc1 wc2 wc3 wc4 wc5 wc6 wc7
            have hwlt := lt_of_heap HWD.out
            rcases h8 with h8 | h8 | h8 | h8 | h8 | h8 | h8 | h8
            · as_aux_lemma =>
              go_wp2_with (first | (go_at_call 11; refine (quoted_word ([34, 34], []) (by decide) _).mono ?_; rintro e w9 ⟨rfl, hb9⟩; have hc9 := blk_after (g := wr.heap.size) hb9 (heap_alloc_new _ _); have HB9 := Lib.hid (below_via hb9 (below_one _ _)); have hlt9 : wr.heap.size < w9.heap.size := lt_of_heap hc9; obtain ⟨d0, d1, d2, d3, df⟩ := cell4 hc9; have HC9 := Lib.hid hc9; clear hc9 hb9))
              go_meet
              exact k9_end [34, 34] [] (by decide) HC9.out HB9.out
            · as_aux_lemma =>
              go_wp2_with (first | (go_at_call 11; refine (quoted_word ([34, 97, 34], [97]) (by decide) _).mono ?_; rintro e w9 ⟨rfl, hb9⟩; have hc9 := blk_after (g := wr.heap.size) hb9 (heap_alloc_new _ _); have HB9 := Lib.hid (below_via hb9 (below_one _ _)); have hlt9 : wr.heap.size < w9.heap.size := lt_of_heap hc9; obtain ⟨d0, d1, d2, d3, df⟩ := cell4 hc9; have HC9 := Lib.hid hc9; clear hc9 hb9))
              go_meet
              exact k9_end [34, 97, 34] [97] (by decide) HC9.out HB9.out
            · as_aux_lemma =>
              go_wp2_with (first | (go_at_call 11; refine (quoted_word ([34, 116, 114, 117, 101, 34], [116, 114, 117, 101]) (by decide) _).mono ?_; rintro e w9 ⟨rfl, hb9⟩; have hc9 := blk_after (g := wr.heap.size) hb9 (heap_alloc_new _ _); have HB9 := Lib.hid (below_via hb9 (below_one _ _)); have hlt9 : wr.heap.size < w9.heap.size := lt_of_heap hc9; obtain ⟨d0, d1, d2, d3, df⟩ := cell4 hc9; have HC9 := Lib.hid hc9; clear hc9 hb9))
              go_meet
              exact k9_end [34, 116, 114, 117, 101, 34] [116, 114, 117, 101] (by decide) HC9.out HB9.out
            · as_aux_lemma =>
              go_wp2_with (first | (go_at_call 11; refine (quoted_word ([34, 195, 169, 34], [195, 169]) (by decide) _).mono ?_; rintro e w9 ⟨rfl, hb9⟩; have hc9 := blk_after (g := wr.heap.size) hb9 (heap_alloc_new _ _); have HB9 := Lib.hid (below_via hb9 (below_one _ _)); have hlt9 : wr.heap.size < w9.heap.size := lt_of_heap hc9; obtain ⟨d0, d1, d2, d3, df⟩ := cell4 hc9; have HC9 := Lib.hid hc9; clear hc9 hb9))
              go_meet
              exact k9_end [34, 195, 169, 34] [195, 169] (by decide) HC9.out HB9.out
            · as_aux_lemma =>
              go_wp2_with (first | (go_at_call 11; refine (quoted_word ([34, 92, 34, 34], [34]) (by decide) _).mono ?_; rintro e w9 ⟨rfl, hb9⟩; have hc9 := blk_after (g := wr.heap.size) hb9 (heap_alloc_new _ _); have HB9 := Lib.hid (below_via hb9 (below_one _ _)); have hlt9 : wr.heap.size < w9.heap.size := lt_of_heap hc9; obtain ⟨d0, d1, d2, d3, df⟩ := cell4 hc9; have HC9 := Lib.hid hc9; clear hc9 hb9))
              go_meet
              exact k9_end [34, 92, 34, 34] [34] (by decide) HC9.out HB9.out
            · as_aux_lemma =>
              go_wp2_with (first | (go_at_call 11; refine (quoted_word ([34, 92, 92, 32, 47, 34], [92, 32, 47]) (by decide) _).mono ?_; rintro e w9 ⟨rfl, hb9⟩; have hc9 := blk_after (g := wr.heap.size) hb9 (heap_alloc_new _ _); have HB9 := Lib.hid (below_via hb9 (below_one _ _)); have hlt9 : wr.heap.size < w9.heap.size := lt_of_heap hc9; obtain ⟨d0, d1, d2, d3, df⟩ := cell4 hc9; have HC9 := Lib.hid hc9; clear hc9 hb9))
              go_meet
              exact k9_end [34, 92, 92, 32, 47, 34] [92, 32, 47] (by decide) HC9.out HB9.out
            · as_aux_lemma =>
              go_wp2_with (first | (go_at_call 11; refine (quoted_word ([34, 92, 110, 34], [10]) (by decide) _).mono ?_; rintro e w9 ⟨rfl, hb9⟩; have hc9 := blk_after (g := wr.heap.size) hb9 (heap_alloc_new _ _); have HB9 := Lib.hid (below_via hb9 (below_one _ _)); have hlt9 : wr.heap.size < w9.heap.size := lt_of_heap hc9; obtain ⟨d0, d1, d2, d3, df⟩ := cell4 hc9; have HC9 := Lib.hid hc9; clear hc9 hb9))
              go_meet
              exact k9_end [34, 92, 110, 34] [10] (by decide) HC9.out HB9.out
            · as_aux_lemma =>
              go_wp2_with (first | (go_at_call 11; refine (quoted_word ([34, 120, 32, 121, 34], [120, 32, 121]) (by decide) _).mono ?_; rintro e w9 ⟨rfl, hb9⟩; have hc9 := blk_after (g := wr.heap.size) hb9 (heap_alloc_new _ _); have HB9 := Lib.hid (below_via hb9 (below_one _ _)); have hlt9 : wr.heap.size < w9.heap.size := lt_of_heap hc9; obtain ⟨d0, d1, d2, d3, df⟩ := cell4 hc9; have HC9 := Lib.hid hc9; clear hc9 hb9))
              go_meet
              exact k9_end [34, 120, 32, 121, 34] [120, 32, 121] (by decide) HC9.out HB9.out
          · have h2 : (n : Int) % 2 = 0 ∨ (n : Int) % 2 = 1 := by omega
            rcases h2 with h2 | h2
            · as_aux_lemma =>
              go_wp2_with fail
              go_meet
              exact ⟨_, .fls, (Below.heap_alloc _ _ _ (by simp)).trans (heap_alloc_new _ _), below_two _ _ _⟩
            · as_aux_lemma =>
              go_wp2_with fail
              go_meet
              exact ⟨_, .tru, (Below.heap_alloc _ _ _ (by simp)).trans (heap_alloc_new _ _), below_two _ _ _⟩
          · as_aux_lemma => (go_wp2_with fail; go_meet; exact ⟨_, .nul, heap_alloc_new _ _, below_one wr _⟩)
      case rest =>
        obtain ⟨m, hm, hblk, hb2⟩ := hcut
        have hlt2 : wr.heap.size < wc.heap.size := lt_of_heap hblk
        have hwsz := HBEL.out.size
        have hwd2 := blk_kept HWD.out hb2
        have hown2 := row_below HOWN.out hb2
        have HOWN2 := Lib.hid hown2
        have HWD2 := Lib.hid hwd2
        have HB2 := Lib.hid (HBEL.out.trans (hb2.mono HBEL.out.size))
        have HBLK := Lib.hid hblk
        obtain ⟨d0, d1, d2, d3, df⟩ := cell4 hblk
        clear hown2 hwd2 hblk hb2
        as_aux_lemma =>
        go_wp2_with (first | (at_builtin; refine wpList_append_lies _ (by rfl) _ _ _ (by rfl) (w.heap.size + 1) 41 i0 _ 4 48 Tryz.underlying35 hi0 hz0 hz1 hz2 rfl (by omega) u4 ms.length (ms.flatMap mkCells) (by rfl) (HOWN2.out.alloc _) ⟨wc.heap.size, 0, none⟩ 1 1 (mkCells m) (by rfl) (by rfl) (World.news_of_block (cs := (mkCells m).toArray) (t := 41) (fr := (0, 0)) (heap_alloc_new' _ _ rfl)) (by simp [mkCells, Value.oneCell']) (by omega) (by unfold maxLen; omega) (by omega) (by simp; omega) (wc.heap.size + 1) (by simp) ?_; intro gg cap3 w3 hown3 hgrow hat hlt; have HO3 := Lib.hid hown3; have HG3 := Lib.hid hgrow; clear hown3 hgrow hat))
        have hrel2 := mx_step (n := L.length) rfl hms hm hk HOWN2.out HB2.out HWD2.out HO3.out HG3.out rfl
        have HR2 := Lib.hid hrel2
        clear hrel2
        go_wp2
        go_roundg (L.length - (ms.length + 1))
        case measure => omega
        case rel => exact HR2.out
    · have hke : ms.length = L.length := by omega
      as_aux_lemma =>
      go_wp2
      go_ret
      exact ⟨ms, u4, rfl, hms, hke, HOWN.out, HBEL.out⟩

end Go.Proofs.YtdabllkphibfmaaGreatDoor
