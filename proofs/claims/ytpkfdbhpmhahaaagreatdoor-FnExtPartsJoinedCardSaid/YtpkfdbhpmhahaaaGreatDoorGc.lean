/- Leaves of the writer: numerals, digits of sixteen. -/
import Derived.Test.YtpkfdbhpmhahaaaGreatDoorGb
import Derived.Test.YtpkfdbhpmhahaaaGreatDoorGa
import Derived.Lib.ItoaMem
import Derived.Test.YtpkfdbhpmhahaaaGreatDoorTre
import Derived.Laws.CopyOwn
import Derived.Lib.LazyBuf
import Derived.Lib.HexFns
import Derived.Deep.WholeRow
import Derived.Deep.MidRow
import Derived.Laws.MathBits
import Derived.Laws.BitsAllLaws
namespace Go.Proofs.YtpkfdbhpmhahaaaGreatDoor
open Go Go.RowKit Go.Sort Go.Lib
set_option linter.unusedSimpArgs false
set_option linter.unusedVariables false

theorem holds_zero0 (w : World) (T : TypeId) (nd : Nat) (hs : nd ≤ 24) : Holds (fun (b : UInt8) => Value.int .u8 (b.toNat : Int)) (w.alloc (.cells zeros24 T)) w.heap.size 0 (Array.replicate nd (0 : UInt8)) := fun j hj => by
  have hj' : j < nd := by simpa using hj
  refine ⟨?_, World.frozen?_alloc_new _ _ _ _⟩
  rw [World.cell?_alloc_new, zeros24_at _ (by omega), getElem!_pos _ j hj]
  simp
theorem fin_pos0 (w : World) (o : Obj) (dk : Array UInt8) (k : Nat) : ∃ os, (putRow (fun (b : UInt8) => Value.int .u8 (b.toNat : Int)) (w.alloc o) w.heap.size 0 dk).drewN k = grow (w.drewN k) os := by
  rw [alloc_eq_grow]
  obtain ⟨os', _, e⟩ := putRow_grow_new (fun (b : UInt8) => Value.int .u8 (b.toNat : Int)) w #[o] w.heap.size 0 dk (Nat.le_refl _)
  exact ⟨os', by rw [e]; rfl⟩

set_option maxRecDepth 100000 in
set_option maxHeartbeats 4000000 in
/-- FormatUint at ten. -/
theorem fmtUint0 (u : Nat) (hu64 : u < 18446744073709551616) (w : World) (hT : Tabs w) : Calls Tryz.prog 100 #[.int .u64 u, .int .i64 10] w (Txt ⟨(Lib.decDigits u).toArray⟩ w) := by
  go_enter Tryz.func100, Tryz.ntmps100
  by_cases hs : u < 100
  · go_wp2_with (go_at_call 109; refine (Tryz.internal_strconv_small u hs _).mono ?_; rintro e w' ⟨rfl, rfl⟩)
    go_ret
    exact ⟨rfl, Below.refl _ _⟩
  · have hu1 : 1 ≤ u := by omega
    have htab := hT.pow
    have hnd20 : Lib.nDigits u ≤ 20 := by have := Lib.numDigits_eq u hu1 hu64; split at this <;> omega
    have hal : Tryz.prog.arrayLen 156 = 24 := by kernel_rfl
    have hsl1 : ∀ W, (Instr.sliceAt 156 (.pointer (some ⟨w.heap.size, 0, none⟩)) none (some (.int .i64 (Lib.nDigits u : Int))) none).run Tryz.prog W = .ok (.slice (some ⟨w.heap.size, 0, none⟩) (Lib.nDigits u) 24) W := fun W => by
      rw [run_sliceAt_array_h W 156 ⟨w.heap.size, 0, none⟩ (by kernel_rfl) .i64 (Lib.nDigits u : Int) (by omega) (by rw [hal]; omega)]
      go_simp
      try omega
    have hH0 := holds_zero0 w 156 (Lib.nDigits u) (by omega)
    have hfmt := Tryz.internal_strconv_formatBase10 w.heap.size 0 24 u (Array.replicate (Lib.nDigits u) 0) (w.alloc (.cells Lib.zeros24 156)) hH0 (by rw [Array.size_replicate]; exact Lib.lt_pow_nDigits u) hu64 (by rw [Array.size_replicate]; omega)
    rw [Array.size_replicate] at hfmt
    have HH0 := Lib.hid hH0
    have HTB := Lib.hid htab
    have hne : ¬ ((u : Int) < 100) := by omega
    clear hH0 hal hT htab
    go_wp2_with (first
        | (go_at_call 110; refine (Tryz.internal_strconv_numDigits u hu1 hu64 _ (Lib.tabIs_alloc HTB.out _)).mono ?_; rintro e w' ⟨rfl, rfl⟩)
        | (go_at_call 111; refine hfmt.mono ?_; rintro e w' ⟨rfl, k, v', dk, rfl, hF⟩;
           have hcv : (convert 23 9 (.slice (some ⟨w.heap.size, 0, none⟩) (Lib.nDigits u) 24)).run Tryz.prog ((putRow (fun (b : UInt8) => Value.int .u8 (b.toNat : Int)) (w.alloc (.cells Lib.zeros24 156)) w.heap.size 0 dk).drewN k) = .ok (.string ⟨(Lib.decDigits u).toArray⟩) ((putRow (fun (b : UInt8) => Value.int .u8 (b.toNat : Int)) (w.alloc (.cells Lib.zeros24 156)) w.heap.size 0 dk).drewN k) := by
             have h := run_convert_bytes_back (P := Tryz.prog) ((putRow (fun (b : UInt8) => Value.int .u8 (b.toNat : Int)) (w.alloc (.cells Lib.zeros24 156)) w.heap.size 0 dk).drewN k) 23 9 5 ⟨w.heap.size, 0, none⟩ 24 (Lib.decDigits u) Tryz.underlying23 Tryz.underlying5 Tryz.underlying9 (fun j hj => by
               rw [Lib.row_is_numeral hF j hj, Lib.add_plain, World.cell?_drewN]
               exact cell?_putRow (fun (b : UInt8) => Value.int .u8 (b.toNat : Int)) _ w.heap.size 0 _ dk HH0.out (by rw [hF.size, Array.size_replicate]) j (by rw [hF.size]; rw [Lib.decDigits_length] at hj; exact hj))
             rw [Lib.decDigits_length] at h
             exact h))
    go_ret
    obtain ⟨os, eo⟩ := fin_pos0 w (.cells Lib.zeros24 156) dk k
    exact ⟨rfl, by rw [eo]; exact below_grow _ _⟩

set_option maxRecDepth 100000 in
theorem fmtUint (u : Nat) (hu64 : u < 18446744073709551616) (w : World) (hT : Tabs w) : Calls Tryz.prog 85 #[.int .u64 u, .int .i64 10] w (Txt ⟨(Lib.decDigits u).toArray⟩ w) := by
  have HT := Lib.hid hT
  clear hT
  go_enter Tryz.func85, Tryz.ntmps85
  go_wp2_with (go_at_call 100; refine (fmtUint0 u hu64 _ HT.out).mono ?_; rintro e w' ⟨rfl, hb⟩)
  go_ret
  exact ⟨rfl, hb⟩

set_option maxRecDepth 100000 in
set_option maxHeartbeats 4000000 in
/-- Two digits of sixteen. -/
theorem hex2 (b : Nat) (hb : b < 256) (w : World) : Calls Tryz.prog 80 #[.int .u8 (b : Nat)] w (Txt ⟨#[hexS[b / 16]'(by show b / 16 < 16; omega), hexS[b % 16]'(by show b % 16 < 16; omega)]⟩ w) := by
  obtain ⟨x, hx⟩ : ∃ x, x = b / 16 := ⟨_, rfl⟩
  obtain ⟨y, hy⟩ : ∃ y, y = b % 16 := ⟨_, rfl⟩
  have e1 : (b : Int) / 16 = (x : Nat) := by omega
  have e2 : bits .and .u8 (b : Int) 15 = (y : Nat) := (u8_and15 (x := (b : Int)) (by omega) (by omega)).trans (by omega)
  have hxN : x < 16 := by omega
  have hyN : y < 16 := by omega
  have hx16 : (x : Int) < 16 := by omega
  have hy16 : (y : Int) < 16 := by omega
  obtain ⟨p, hp⟩ : ∃ p : UInt8, hexS[x]'(by exact hxN) = p := ⟨_, rfl⟩
  obtain ⟨q, hq⟩ : ∃ q : UInt8, hexS[y]'(by exact hyN) = q := ⟨_, rfl⟩
  have ep : hexS[b / 16]'(by show b / 16 < 16; omega) = p := by subst hx; exact hp
  have eq : hexS[b % 16]'(by show b % 16 < 16; omega) = q := by subst hy; exact hq
  rw [ep, eq]
  clear ep eq
  unfold hexS at hp hq
  have HN := Lib.hid (heap_alloc_new w (.cells #[.int .u8 (p.toNat : Int), .int .u8 (q.toNat : Int)] 5))
  have hcv := back2 (w.alloc (.cells #[.int .u8 (p.toNat : Int), .int .u8 (q.toNat : Int)] 5)).drew w.heap.size p q HN.out
  clear hb hx hy
  go_enter Tryz.func80, Tryz.ntmps80
  go_wp2
  go_region_with (fail)
  all_goals (go_wp2; go_ret; exact ⟨rfl, below_drew ((Below.refl w.heap.size w).alloc (Nat.le_refl _) _)⟩)

end Go.Proofs.YtpkfdbhpmhahaaaGreatDoor

/- Leaves of the writer: an identity's twelve bytes. -/
namespace Go.Proofs.YtpkfdbhpmhahaaaGreatDoor
open Go Go.RowKit Go.Lib
set_option linter.unusedSimpArgs false
set_option linter.unusedVariables false

/-- Twelve bytes: of a row, or zeros. -/
def idL (bs : List UInt8) : List UInt8 := splice (List.replicate 12 0) 0 (bs.take 12)
theorem idL_length (bs : List UInt8) : (idL bs).length = 12 := by
  unfold idL
  rw [length_splice _ _ _ (by simp; omega)]
  rfl
/-- A row of bytes stands where a slice says. -/
def BytesAt (w : World) (bs : List UInt8) (ba : Option Addr) : Prop := bs ≠ [] → ∃ g o, ba = some ⟨g, o, none⟩ ∧ w.rangeAt g o (Lib.byteCells bs)

def zc12 : List Value := [.int .u8 0, .int .u8 0, .int .u8 0, .int .u8 0, .int .u8 0, .int .u8 0, .int .u8 0, .int .u8 0, .int .u8 0, .int .u8 0, .int .u8 0, .int .u8 0]
theorem idL_cells (bs : List UInt8) : splice zc12 0 (Lib.byteCells (bs.take 12)) = Lib.byteCells (idL bs) := by
  simp only [idL, splice, Lib.byteCells, List.map_append, List.map_drop, List.length_map, List.map_take, List.length_take]
  rfl
theorem take_cells2 {w : World} {bs : List UInt8} {g o k : Nat} (h : w.rangeAt g o (Lib.byteCells bs)) : ∀ j v, (Lib.byteCells (bs.take k))[j]? = some v → w.cell? ((⟨g, o, none⟩ : Addr).add j) = some v := fun j v hv => by
  rw [Lib.add_plain]
  refine h j v ?_
  rw [byteCells_get] at hv ⊢
  rw [List.getElem?_take] at hv
  split at hv
  · exact hv
  · simp at hv

theorem info114 : (Tryz.prog.info? 114).map (·.size) = some 12 := by kernel_rfl

set_option maxRecDepth 100000 in
set_option maxHeartbeats 4000000 in
theorem idC (bs : List UInt8) (ba : Option Addr) (bn bc : Nat) (hbn : bn = bs.length) (w : World) (hB : BytesAt w bs ba) :
    Calls Tryz.prog 58 #[.slice ba bn bc] w (fun e w' => e = .returned (.agg (Lib.byteCells (idL bs)).toArray) ∧ Below w.heap.size w w') := by
  subst hbn
  obtain ⟨CS, hCS⟩ : ∃ CS, CS = Lib.byteCells (bs.take 12) := ⟨_, rfl⟩
  obtain ⟨X, hX⟩ : ∃ X, X = (Lib.byteCells (idL bs)).toArray := ⟨_, rfl⟩
  have hXs : X.size = 12 := by rw [hX]; simp [byteCells_length, idL_length]
  have hX1 : X.all (·.oneCell') = true := by rw [hX]; exact all_oneCell_toArray (byteCells_oneCell _)
  have hcl : CS.length = Nat.min bs.length 12 := by rw [hCS, byteCells_length, List.length_take, Nat.min_comm]
  have hc1 : ∀ v ∈ CS, v.oneCell' = true := by rw [hCS]; exact byteCells_oneCell _
  have hpos : ∀ (W : World), (∀ k, k < w.heap.size → W.heap[k]? = w.heap[k]?) → 0 < CS.length → ∃ ad, ba = some ad ∧ ∀ j v, CS[j]? = some v → W.cell? (ad.add j) = some v := fun W hk hp => by
    have hne : bs ≠ [] := by rintro rfl; rw [hCS] at hp; simp [Lib.byteCells] at hp
    obtain ⟨g, o, rfl, hr⟩ := hB hne
    refine ⟨_, rfl, fun j v hv => ?_⟩
    rw [hCS] at hv
    have h2 := take_cells2 hr j v hv
    rw [Lib.add_plain] at h2 ⊢
    have hg : g < w.heap.size := by
      rcases Nat.lt_or_ge g w.heap.size with h | h
      · exact h
      · simp [World.cell?, Array.getElem?_eq_none h] at h2
    exact (World.cell?_of_block (a := ⟨g, o + j, none⟩) (hk g hg)).trans h2
  have hsp : (splice zc12 0 CS).toArray = X := by rw [hX, hCS, idL_cells]
  rw [← hX]
  have HP := Lib.hid hpos
  have HS := Lib.hid hsp
  have HC1 := Lib.hid hc1
  have HX1 := Lib.hid hX1
  clear hX hCS hpos hB hsp hc1 hX1
  have HCL := Lib.hid hcl
  have HXS := Lib.hid hXs
  clear hcl hXs
  go_enter Tryz.func58, Tryz.ntmps58
  go_wp2_with (first
    | ((with_reducible refine wpList_at (some 5) ?_); refine wpList_copy_splice rfl (.tmp 3) (.tmp 4) _ _ rfl 5 Tryz.underlying23 (by kernel_rfl) _ _ _ _ _ _ rfl rfl w.heap.size 0 zc12 114 (heap_alloc_new w _) CS HCL.out (fun hp => ⟨rfl, HP.out _ (fun k hk => ((Below.refl w.heap.size w).alloc (Nat.le_refl _) _).block k hk) hp⟩) (by rw [HCL.out, Nat.zero_add]; exact Nat.min_le_right _ _) HC1.out w.heap.size w ((Below.refl _ _).alloc (Nat.le_refl _) _) (Nat.le_refl _) ?_; intro w1 hg1 hb1; have hg2 := hg1.out; rw [HS.out] at hg2; have HG := Lib.hid hg2; have HBL := Lib.hid hb1; clear hg1 hg2 hb1)
    | ((with_reducible refine wpList_at (some 6) ?_); refine wpList_load_row rfl 114 (.tmp 2) rfl w.heap.size rfl 114 X (0, 0) _ HG.out Tryz.underlying114 rfl (by rw [info114, HXS.out]) ?_)
    | (refine wpList_store_row rfl 114 (.tmp 2) (.tmp 6) rfl w.heap.size X rfl rfl 114 X HG.out (by rw [info114, HXS.out]) rfl HX1.out ?_))
  refine bodyPost_ret (results_cell_row (ty := 114) rfl _ _ w.heap.size 114 X (0, 0) _ rfl (setRow_heap w1 _ _ _ _ _ HG.out) Tryz.underlying114 rfl (by rw [info114, HXS.out])) rfl ?_
  exact ⟨rfl, below_setRow HBL.out (Nat.le_refl _) X⟩

theorem bytesOf_nat (l : List UInt8) : Lib.bytesOf (l.map fun b => (b.toNat : Int)) = l := by
  unfold Lib.bytesOf
  rw [List.map_map]
  conv => rhs; rw [← List.map_id l]
  apply List.map_congr_left
  intro b _
  simp

theorem info139 : (Tryz.prog.info? 139).map (·.size) = some 12 := by kernel_rfl

theorem hex_back {L : List UInt8} {w : World} {g : Nat} {f : Nat → Value} (hL : L.length = 12) (h : w.rowIs g 156 24 (Lib.Hx.row f 0 L 12)) : (convert 23 9 (.slice (some ⟨g, 0, none⟩) 24 24)).run Tryz.prog w = .ok (.string ⟨(Lib.Hx.encode L).toArray⟩) w := by
  have hl : (Lib.Hx.encode L).length = 24 := by rw [Lib.Hx.encode_length, hL]
  have h2 := run_convert_bytes_back (P := Tryz.prog) w 23 9 5 ⟨g, 0, none⟩ 24 (Lib.Hx.encode L) Tryz.underlying23 Tryz.underlying5 Tryz.underlying9 (fun j hj => by
    rw [Lib.add_plain, Nat.zero_add, h.cell (by omega)]
    unfold Lib.Hx.row
    rw [if_pos (by omega), Nat.sub_zero, List.getElem?_eq_getElem hj]
    rfl)
  rw [hl] at h2
  exact h2

def zc24 : Nat → Value := fun _ => .int .u8 0
set_option maxRecDepth 100000 in
set_option maxHeartbeats 4000000 in
/-- The twelve bytes as digits of sixteen. -/
theorem oidHex (L : List UInt8) (hL : L.length = 12) (w : World) :
    Calls Tryz.prog 81 #[.agg (Lib.byteCells L).toArray] w (Txt ⟨(Lib.Hx.encode L).toArray⟩ w) := by
  obtain ⟨X, hX⟩ : ∃ X, X = (Lib.byteCells L).toArray := ⟨_, rfl⟩
  have hXs : X.size = 12 := by rw [hX]; simp [byteCells_length, hL]
  have hX1 : X.all (·.oneCell') = true := by rw [hX]; exact all_oneCell_toArray (byteCells_oneCell _)
  rw [← hX]
  have hi := info139
  rw [← hXs] at hi
  have HN := Lib.hid (heap_alloc_new w (.cells X 139))
  have HX := Lib.hid hX
  clear hX
  go_enter Tryz.func81, Tryz.ntmps81
  go_upto_region 2 with (fail)
  have hb1 : Below w.heap.size w ((w.alloc (.cells X 139)).alloc (.cells #[.int .u8 0, .int .u8 0, .int .u8 0, .int .u8 0, .int .u8 0, .int .u8 0, .int .u8 0, .int .u8 0, .int .u8 0, .int .u8 0, .int .u8 0, .int .u8 0, .int .u8 0, .int .u8 0, .int .u8 0, .int .u8 0, .int .u8 0, .int .u8 0, .int .u8 0, .int .u8 0, .int .u8 0, .int .u8 0, .int .u8 0, .int .u8 0] 156)) := ((Below.refl _ _).alloc (Nat.le_refl _) _).alloc (by simp) _
  have hn1 := heap_alloc2_new w (.cells X 139) (.cells #[.int .u8 0, .int .u8 0, .int .u8 0, .int .u8 0, .int .u8 0, .int .u8 0, .int .u8 0, .int .u8 0, .int .u8 0, .int .u8 0, .int .u8 0, .int .u8 0, .int .u8 0, .int .u8 0, .int .u8 0, .int .u8 0, .int .u8 0, .int .u8 0, .int .u8 0, .int .u8 0, .int .u8 0, .int .u8 0, .int .u8 0, .int .u8 0] 156)
  have hn0 := heap_alloc2_old w (.cells X 139) (.cells #[.int .u8 0, .int .u8 0, .int .u8 0, .int .u8 0, .int .u8 0, .int .u8 0, .int .u8 0, .int .u8 0, .int .u8 0, .int .u8 0, .int .u8 0, .int .u8 0, .int .u8 0, .int .u8 0, .int .u8 0, .int .u8 0, .int .u8 0, .int .u8 0, .int .u8 0, .int .u8 0, .int .u8 0, .int .u8 0, .int .u8 0, .int .u8 0] 156)
  have hs1 : w.heap.size ≤ ((w.alloc (.cells X 139)).alloc (.cells #[.int .u8 0, .int .u8 0, .int .u8 0, .int .u8 0, .int .u8 0, .int .u8 0, .int .u8 0, .int .u8 0, .int .u8 0, .int .u8 0, .int .u8 0, .int .u8 0, .int .u8 0, .int .u8 0, .int .u8 0, .int .u8 0, .int .u8 0, .int .u8 0, .int .u8 0, .int .u8 0, .int .u8 0, .int .u8 0, .int .u8 0, .int .u8 0] 156)).heap.size := by simp; omega
  generalize ((w.alloc (.cells X 139)).alloc (.cells #[.int .u8 0, .int .u8 0, .int .u8 0, .int .u8 0, .int .u8 0, .int .u8 0, .int .u8 0, .int .u8 0, .int .u8 0, .int .u8 0, .int .u8 0, .int .u8 0, .int .u8 0, .int .u8 0, .int .u8 0, .int .u8 0, .int .u8 0, .int .u8 0, .int .u8 0, .int .u8 0, .int .u8 0, .int .u8 0, .int .u8 0, .int .u8 0] 156)) = W at hb1 hn0 hn1 hs1 ⊢
  have hrw : W.drew.rowIs (w.heap.size + 1) 156 24 zc24 := ⟨_, hn1, rfl, fun i hi => zeros24_at i hi⟩
  have hsr : ∀ i, i < 12 → W.drew.cell? ⟨w.heap.size, 0 + i, none⟩ = some (.int .u8 ((L.map fun b => (b.toNat : Int)).getD i 0)) := fun i hi => by
    show W.cell? _ = _
    rw [HX.out] at hn0
    have hiL : i < L.length := by omega
    simp [World.cell?, hn0, Lib.byteCells, hiL]
  have hr : ∀ i, i < 12 → 0 ≤ (L.map fun b => (b.toNat : Int)).getD i 0 ∧ (L.map fun b => (b.toNat : Int)).getD i 0 < 256 := fun i hi => by
    rw [Lz.getD_map]
    have := (L[i]?.getD 0).toNat_lt
    omega
  have hbd := below_drew hb1
  have HR := Lib.hid hr
  have HSR := Lib.hid hsr
  have HRW := Lib.hid hrw
  have HB1 := Lib.hid hbd
  have HBS : Hid (w.heap.size ≤ W.drew.heap.size) := Lib.hid hs1
  clear hr hsr hrw hbd hb1 hn0 hn1 hs1
  refine wp_region_noPanic ?_
  refine wp_region_held_drew (S := fun _ => True) (by kernel_rfl) (trivial) (fun hHeld => ?_)
  refine takeH (i := 0) (some 4) ?vq1 rfl rfl (by kernel_rfl) (by kernel_rfl) (by kernel_rfl) (fun _ _ _ h => h) (by rfl) ?yq2 (by assumption) ?rq3
  case yq2 => intro W hSw; go_simp; all_goals with_reducible rfl
  try simp only [Act.put, List.setIfInBounds_toArray, List.set_cons_zero, List.set_cons_succ]
  refine takeH (i := 1) (some 5) ?vq4 rfl rfl (by kernel_rfl) (by kernel_rfl) (by kernel_rfl) (fun _ _ _ h => h) (by rfl) ?yq5 (by assumption) ?rq6
  case yq5 => intro W hSw; go_simp; all_goals with_reducible rfl
  try simp only [Act.put, List.setIfInBounds_toArray, List.set_cons_zero, List.set_cons_succ]
  refine wpAnyH_ready (rs := [2]) (by kernel_rfl) (by simp) ?_
  refine (AllReadyH.cons rfl (fun K hK => ?_) AllReadyH.nil)
  go_simp
  refine (Tryz.hex_Encode_tag 156 (w.heap.size + 1) 0 24 24 24 zc24 w.heap.size 0 12 12 (L.map fun b => (b.toNat : Int)) _ (by simp [hL]) HR.out HSR.out HRW.out (by omega) (by omega) (by omega) (by omega)).mono ?_
  rintro e2 w2 ⟨rfl, hrow2, hgr2⟩
  rw [bytesOf_nat] at hrow2
  have hcv : (convert 23 9 (.slice (some ⟨w.heap.size + 1, 0, none⟩) 24 24)).run Tryz.prog w2 = .ok (.string ⟨(Lib.Hx.encode L).toArray⟩) w2 := hex_back hL hrow2
  have HB2 := Lib.hid (below_grown HB1.out hgr2 (fun k e => by cases e; omega) HBS.out)
  clear hrow2 hgr2
  refine hK.out _ _ (trivial) (fun hHeld => ?_)
  clear hK K
  try simp only [Act.put, List.setIfInBounds_toArray, List.set_cons_zero, List.set_cons_succ]
  refine wpAnyH_done (by kernel_rfl) ?_ _
  refine NoPanic.normal ?_
  go_wp2
  go_ret
  exact ⟨rfl, HB2.out⟩

theorem info125 : (Tryz.prog.info? 125).map (·.size) = some 2 := by kernel_rfl
set_option maxRecDepth 100000 in
set_option maxHeartbeats 1000000 in
theorem newDec (h l : Int) (w : World) : Calls Tryz.prog 70 #[.int .u64 h, .int .u64 l] w (fun e w' => e = .returned (.agg #[.int .u64 h, .int .u64 l]) ∧ Below w.heap.size w w') := by
  have HN := Lib.hid (heap_alloc_new w (.cells #[.int .u64 h, .int .u64 l] 125))
  go_enter Tryz.func70, Tryz.ntmps70
  go_wp2_with (refine wpList_store_new rfl 125 (.tmp 4) (.tmp 7) rfl rfl w _ #[.int .u64 h, .int .u64 l] 125 rfl rfl (by rw [info125]; rfl) rfl rfl ?_)
  refine bodyPost_ret (results_cell_row (ty := 125) rfl _ _ w.heap.size 125 #[.int .u64 h, .int .u64 l] (0, 0) _ rfl HN.out Tryz.underlying125 rfl (by rw [info125]; rfl)) rfl ?_
  exact ⟨rfl, (Below.refl _ _).alloc (Nat.le_refl _) _⟩

end Go.Proofs.YtpkfdbhpmhahaaaGreatDoor

/- Leaves of the writer: a decimal's text: divmod. -/
namespace Go.Proofs.YtpkfdbhpmhahaaaGreatDoor
open Go Go.RowKit Go.Lib
set_option linter.unusedSimpArgs false
set_option linter.unusedVariables false

/-- High, low and rest of a division by 10^9. -/
def dmQ (h l : Nat) : Nat × Nat × Nat :=
  let A := h / 4294967296
  let Aq := A / 1000000000
  let Ar := A % 1000000000
  let S1 := Ar * 4294967296
  let Hl := h % 4294967296
  let Bv := S1 + Hl
  let Bq := Bv / 1000000000
  let Br := Bv % 1000000000
  let S2 := Br * 4294967296
  let Lh := l / 4294967296
  let Cv := S2 + Lh
  let Cq := Cv / 1000000000
  let Cr := Cv % 1000000000
  let S3 := Cr * 4294967296
  let Ll := l % 4294967296
  let Dv := S3 + Ll
  let Dq := Dv / 1000000000
  let Dr := Dv % 1000000000
  let S4 := Aq * 4294967296
  let S5 := Cq * 4294967296
  (S4 ||| Bq, S5 ||| Dq, Dr)
theorem dmQ_eq (h l : Nat) : dmQ h l = (h / 4294967296 / 1000000000 * 4294967296 ||| (h / 4294967296 % 1000000000 * 4294967296 + h % 4294967296) / 1000000000, (dmQ h l).2.1, (dmQ h l).2.2) := rfl
theorem dmQ_rem (h l : Nat) : (dmQ h l).2.2 < 1000000000 := Nat.mod_lt _ (by decide)
theorem dmQ_zero : dmQ 0 0 = (0, 0, 0) := by decide

set_option maxRecDepth 100000 in
set_option maxHeartbeats 4000000 in
theorem divmod (h l : Nat) (hh : h < 18446744073709551616) (hl : l < 18446744073709551616) (w : World) :
    Calls Tryz.prog 115 #[.int .u64 h, .int .u64 l, .int .u32 1000000000] w (fun e w' => e = .returned (.tuple #[.int .u64 (dmQ h l).1, .int .u64 (dmQ h l).2.1, .int .u32 (dmQ h l).2.2]) ∧ w' = w) ∧ (dmQ h l).1 < 18446744073709551616 ∧ (dmQ h l).2.1 < 18446744073709551616 := by
  obtain ⟨A, hA⟩ : ∃ x, x = h / 4294967296 := ⟨_, rfl⟩
  obtain ⟨Aq, hAq⟩ : ∃ x, x = A / 1000000000 := ⟨_, rfl⟩
  obtain ⟨Ar, hAr⟩ : ∃ x, x = A % 1000000000 := ⟨_, rfl⟩
  obtain ⟨S1, hS1⟩ : ∃ x, x = Ar * 4294967296 := ⟨_, rfl⟩
  obtain ⟨Hl, hHl⟩ : ∃ x, x = h % 4294967296 := ⟨_, rfl⟩
  obtain ⟨Bv, hBv⟩ : ∃ x, x = S1 + Hl := ⟨_, rfl⟩
  obtain ⟨Bq, hBq⟩ : ∃ x, x = Bv / 1000000000 := ⟨_, rfl⟩
  obtain ⟨Br, hBr⟩ : ∃ x, x = Bv % 1000000000 := ⟨_, rfl⟩
  obtain ⟨S2, hS2⟩ : ∃ x, x = Br * 4294967296 := ⟨_, rfl⟩
  obtain ⟨Lh, hLh⟩ : ∃ x, x = l / 4294967296 := ⟨_, rfl⟩
  obtain ⟨Cv, hCv⟩ : ∃ x, x = S2 + Lh := ⟨_, rfl⟩
  obtain ⟨Cq, hCq⟩ : ∃ x, x = Cv / 1000000000 := ⟨_, rfl⟩
  obtain ⟨Cr, hCr⟩ : ∃ x, x = Cv % 1000000000 := ⟨_, rfl⟩
  obtain ⟨S3, hS3⟩ : ∃ x, x = Cr * 4294967296 := ⟨_, rfl⟩
  obtain ⟨Ll, hLl⟩ : ∃ x, x = l % 4294967296 := ⟨_, rfl⟩
  obtain ⟨Dv, hDv⟩ : ∃ x, x = S3 + Ll := ⟨_, rfl⟩
  obtain ⟨Dq, hDq⟩ : ∃ x, x = Dv / 1000000000 := ⟨_, rfl⟩
  obtain ⟨Dr, hDr⟩ : ∃ x, x = Dv % 1000000000 := ⟨_, rfl⟩
  obtain ⟨S4, hS4⟩ : ∃ x, x = Aq * 4294967296 := ⟨_, rfl⟩
  obtain ⟨S5, hS5⟩ : ∃ x, x = Cq * 4294967296 := ⟨_, rfl⟩
  have bAr : Ar < 1000000000 := by omega
  have bBr : Br < 1000000000 := by omega
  have bCr : Cr < 1000000000 := by omega
  have bDr : Dr < 1000000000 := by omega
  have bBv : Bv < 4294967296000000000 := by omega
  have bCv : Cv < 4294967296000000000 := by omega
  have bDv : Dv < 4294967296000000000 := by omega
  have bBq : Bq < 4294967296 := by omega
  have bDq : Dq < 4294967296 := by omega
  have bCq : Cq < 4294967296 := by omega
  have bAq : Aq < 5 := by omega
  have bS4 : S4 < 18446744073709551616 := by omega
  have bS5 : S5 < 18446744073709551616 := by omega
  obtain ⟨QH, hQH⟩ : ∃ x, x = S4 ||| Bq := ⟨_, rfl⟩
  obtain ⟨QL, hQL⟩ : ∃ x, x = S5 ||| Dq := ⟨_, rfl⟩
  have hQ : dmQ h l = (QH, QL, Dr) := by subst hQH hQL; subst hS5 hS4 hDr hDq hDv hLl hS3 hCr hCq hCv hLh hS2 hBr hBq hBv hHl hS1 hAr hAq hA; rfl
  rw [hQ]
  have bQH : QH < 18446744073709551616 := by rw [hQH]; exact Nat.or_lt_two_pow (n := 64) bS4 (by omega)
  have bQL : QL < 18446744073709551616 := by rw [hQL]; exact Nat.or_lt_two_pow (n := 64) bS5 (by omega)
  refine ⟨?_, bQH, bQL⟩
  have fA : ((h : Nat) : Int) / 4294967296 = ((A : Nat) : Int) := by omega
  have fAq : ((A : Nat) : Int) / 1000000000 = ((Aq : Nat) : Int) := by omega
  have fAr : ((A : Nat) : Int) % 1000000000 = ((Ar : Nat) : Int) := by omega
  have fS1 : IntKind.u64.wrap (((Ar : Nat) : Int) * 4294967296) = ((S1 : Nat) : Int) := by rw [IntKind.wrap_u64]; omega
  have fHl : bits .and .u64 ((h : Nat) : Int) 4294967295 = ((Hl : Nat) : Int) := by rw [and_low32 _ (by omega) (by omega)]; omega
  have fBv : IntKind.u64.wrap (((S1 : Nat) : Int) + ((Hl : Nat) : Int)) = ((Bv : Nat) : Int) := by rw [IntKind.wrap_u64]; omega
  have fBq : ((Bv : Nat) : Int) / 1000000000 = ((Bq : Nat) : Int) := by omega
  have fBr : ((Bv : Nat) : Int) % 1000000000 = ((Br : Nat) : Int) := by omega
  have fS2 : IntKind.u64.wrap (((Br : Nat) : Int) * 4294967296) = ((S2 : Nat) : Int) := by rw [IntKind.wrap_u64]; omega
  have fLh : ((l : Nat) : Int) / 4294967296 = ((Lh : Nat) : Int) := by omega
  have fCv : IntKind.u64.wrap (((S2 : Nat) : Int) + ((Lh : Nat) : Int)) = ((Cv : Nat) : Int) := by rw [IntKind.wrap_u64]; omega
  have fCq : ((Cv : Nat) : Int) / 1000000000 = ((Cq : Nat) : Int) := by omega
  have fCr : ((Cv : Nat) : Int) % 1000000000 = ((Cr : Nat) : Int) := by omega
  have fS3 : IntKind.u64.wrap (((Cr : Nat) : Int) * 4294967296) = ((S3 : Nat) : Int) := by rw [IntKind.wrap_u64]; omega
  have fLl : bits .and .u64 ((l : Nat) : Int) 4294967295 = ((Ll : Nat) : Int) := by rw [and_low32 _ (by omega) (by omega)]; omega
  have fDv : IntKind.u64.wrap (((S3 : Nat) : Int) + ((Ll : Nat) : Int)) = ((Dv : Nat) : Int) := by rw [IntKind.wrap_u64]; omega
  have fDq : ((Dv : Nat) : Int) / 1000000000 = ((Dq : Nat) : Int) := by omega
  have fDr : ((Dv : Nat) : Int) % 1000000000 = ((Dr : Nat) : Int) := by omega
  have fS4 : IntKind.u64.wrap (((Aq : Nat) : Int) * 4294967296) = ((S4 : Nat) : Int) := by rw [IntKind.wrap_u64]; omega
  have fS5 : IntKind.u64.wrap (((Cq : Nat) : Int) * 4294967296) = ((S5 : Nat) : Int) := by rw [IntKind.wrap_u64]; omega
  have fQH : bits .or .u64 ((S4 : Nat) : Int) ((Bq : Nat) : Int) = ((QH : Nat) : Int) := by rw [u64_or_nat _ _ bS4 (by omega), hQH]
  have fQL : bits .or .u64 ((S5 : Nat) : Int) ((Dq : Nat) : Int) = ((QL : Nat) : Int) := by rw [u64_or_nat _ _ bS5 (by omega), hQL]
  have wAq : IntKind.u64.wrap ((Aq : Nat) : Int) = ((Aq : Nat) : Int) := by rw [IntKind.wrap_u64]; omega
  have wBq : IntKind.u64.wrap ((Bq : Nat) : Int) = ((Bq : Nat) : Int) := by rw [IntKind.wrap_u64]; omega
  have wCq : IntKind.u64.wrap ((Cq : Nat) : Int) = ((Cq : Nat) : Int) := by rw [IntKind.wrap_u64]; omega
  have wDq : IntKind.u64.wrap ((Dq : Nat) : Int) = ((Dq : Nat) : Int) := by rw [IntKind.wrap_u64]; omega
  have wAr : IntKind.u64.wrap ((Ar : Nat) : Int) = ((Ar : Nat) : Int) := by rw [IntKind.wrap_u64]; omega
  have wBr : IntKind.u64.wrap ((Br : Nat) : Int) = ((Br : Nat) : Int) := by rw [IntKind.wrap_u64]; omega
  have wCr : IntKind.u64.wrap ((Cr : Nat) : Int) = ((Cr : Nat) : Int) := by rw [IntKind.wrap_u64]; omega
  have wDr : IntKind.u64.wrap ((Dr : Nat) : Int) = ((Dr : Nat) : Int) := by rw [IntKind.wrap_u64]; omega
  have wA : IntKind.u64.wrap ((A : Nat) : Int) = ((A : Nat) : Int) := by rw [IntKind.wrap_u64]; omega
  have fDr2 : IntKind.u32.wrap ((Dr : Nat) : Int) = ((Dr : Nat) : Int) := by rw [IntKind.wrap_u32]; omega
  clear hQ hQH hQL bQH bQL bAr bBr bCr bDr bBv bCv bDv bBq bDq bCq bAq bS4 bS5 hS5 hS4 hDr hDq hDv hLl hS3 hCr hCq hCv hLh hS2 hBr hBq hBv hHl hS1 hAr hAq hA hh hl
  go_enter Tryz.func115, Tryz.ntmps115
  go_wp2
  go_ret3
  exact ⟨rfl, rfl⟩

end Go.Proofs.YtpkfdbhpmhahaaaGreatDoor

/- A decimal's text as the program builds it: plain. -/
namespace Go.Proofs.YtpkfdbhpmhahaaaGreatDoor
set_option linter.unusedVariables false

/-- The state of the loop. -/
structure DS where
  exp : Int
  hi : Nat
  lo : Nat
  last : Nat
  i : Nat
  dot : Int
  rem : Nat
  row : List UInt8

def DS.dotted (S : DS) : Prop := S.i < 48 ∧ (S.dot = S.i ∨ (S.lo = 0 ∧ S.hi = 0 ∧ 0 < S.rem ∧ S.rem < 10 ∧ (S.dot < (S.i : Int) - 6 ∨ 0 < S.exp)))
instance (S : DS) : Decidable S.dotted := by unfold DS.dotted; infer_instance
/-- The point. -/
def DS.point (S : DS) : DS := if S.dotted then { S with exp := S.exp + (48 - (S.i : Int)), i := S.i - 1, row := S.row.set (S.i - 1) 46, last := S.i - 2, dot := 48 } else S
/-- The digit. -/
def DS.digit (S : DS) : DS := { S with rem := S.rem / 10, i := S.i - 1, row := S.row.set (S.i - 1) (UInt8.ofNat (48 + S.rem % 10)) }
def DS.stop1 (S : DS) : Prop := S.lo = 0 ∧ S.hi = 0 ∧ S.rem = 0 ∧ S.i = 47 ∧ (S.dot < (S.i : Int) - 5 ∨ 0 < S.exp)
instance (S : DS) : Decidable S.stop1 := by unfold DS.stop1; infer_instance
def DS.stop2 (S : DS) : Prop := (S.i : Int) < S.dot ∧ S.lo = 0 ∧ S.hi = 0 ∧ S.rem = 0
instance (S : DS) : Decidable S.stop2 := by unfold DS.stop2; infer_instance
/-- What stands there behind the digit c. -/
def DS.after (S : DS) (c : Nat) : DS × Bool :=
  if S.stop1 then ({ S with last := S.i }, true)
  else (if c = 0 then S else { S with last := S.i }, decide S.stop2)
def DS.round (S : DS) : DS × Bool := S.point.digit.after (S.point.rem % 10)
def DS.inner : Nat → DS → DS × Bool
  | 0, S => (S, false)
  | n + 1, S => if S.round.2 then S.round else DS.inner n S.round.1
def DS.div (S : DS) : DS := { S with hi := (dmQ S.hi S.lo).1, lo := (dmQ S.hi S.lo).2.1, rem := (dmQ S.hi S.lo).2.2 }
def DS.outer : Nat → DS → DS
  | 0, S => S
  | n + 1, S => if (DS.inner 9 S.div).2 then (DS.inner 9 S.div).1 else DS.outer n (DS.inner 9 S.div).1

def DS.phi (S : DS) : Nat := (if S.dot = 48 then 0 else 1) + (if S.hi = 0 ∧ S.lo = 0 ∧ S.rem = 0 then 0 else 1)
/-- k digits are written. -/
structure DS.Ok (S : DS) (k : Nat) : Prop where
  row : S.row.length = 48
  hi : S.hi < 18446744073709551616
  lo : S.lo < 18446744073709551616
  rem : S.rem < 1000000000
  i48 : S.i ≤ 48
  low : 46 + S.phi ≤ S.i + k
  last : S.i ≤ S.last ∧ S.last ≤ 48
  e1 : -6176 ≤ S.exp ∧ S.exp ≤ 11000 + 48 * k
  dot : -6128 ≤ S.dot ∧ S.dot ≤ 11000

theorem DS.Ok.point {S : DS} {k : Nat} (h : S.Ok k) (hk : k < 45) : S.point.row.length = 48 ∧ S.point.hi = S.hi ∧ S.point.lo = S.lo ∧ S.point.rem = S.rem ∧ 1 ≤ S.point.i ∧ S.point.i ≤ 48 ∧ S.point.i - 1 ≤ S.point.last ∧ S.point.last ≤ 48 ∧ -6176 ≤ S.point.exp ∧ S.point.exp ≤ 11048 + 48 * k ∧ -6128 ≤ S.point.dot ∧ S.point.dot ≤ 11000 ∧ (∀ hi lo r : Nat, (S.rem < 10 → r = 0) → hi = S.hi → lo = S.lo → (S.hi = 0 ∧ S.lo = 0 ∧ S.rem = 0 → r = 0) → 46 + ((if S.point.dot = 48 then 0 else 1) + (if hi = 0 ∧ lo = 0 ∧ r = 0 then 0 else 1)) ≤ S.point.i + k) := by
  obtain ⟨h1, h2, h3, h4, h5, h6, h7, h8, h9⟩ := h
  unfold DS.phi at h6
  unfold DS.point
  split
  · rename_i hd
    obtain ⟨hd1, hd2⟩ := hd
    refine ⟨by simp [h1], rfl, rfl, rfl, ?_, ?_, ?_, ?_, ?_, ?_, ?_, ?_, ?_⟩
    all_goals simp only
    · rcases hd2 with e | ⟨e1, e2, e3, e4, _⟩
      · rw [if_neg (by omega)] at h6; split at h6 <;> omega
      · rw [if_neg (by omega : ¬ (S.hi = 0 ∧ S.lo = 0 ∧ S.rem = 0))] at h6; split at h6 <;> omega
    · omega
    · omega
    · omega
    · omega
    · omega
    · omega
    · omega
    · intro hi lo r hr e1 e2 hz
      rw [if_pos trivial]
      rcases hd2 with e | ⟨e1, e2, e3, e4, _⟩
      · rw [if_neg (by omega)] at h6
        split at h6
        · rename_i hq; rw [if_pos ⟨by omega, by omega, hz hq⟩]; omega
        · split <;> omega
      · rw [if_neg (by omega : ¬ (S.hi = 0 ∧ S.lo = 0 ∧ S.rem = 0))] at h6
        rw [if_pos ⟨by omega, by omega, hr e4⟩]
        split at h6 <;> omega
  · refine ⟨h1, rfl, rfl, rfl, ?_, h5, by omega, by omega, by omega, by omega, h9.1, h9.2, ?_⟩
    · omega
    · intro hi lo r hr e1 e2 hz
      split at h6
      · rename_i hq
        rw [if_pos hq]
        split at h6
        · rename_i hp; rw [if_pos ⟨by omega, by omega, hz hp⟩]; omega
        · split <;> omega
      · rename_i hq
        rw [if_neg hq]
        split at h6
        · rename_i hp; rw [if_pos ⟨by omega, by omega, hz hp⟩]; omega
        · split <;> omega

theorem DS.Ok.round {S : DS} {k : Nat} (h : S.Ok k) (hk : k < 45) : S.round.1.Ok (k + 1) := by
  obtain ⟨p1, p2, p3, p4, p5, p6, p7, p8, p9, p10, p11, p12, p13⟩ := h.point hk
  have hr := h.rem
  have hh := h.hi
  have hl := h.lo
  have key : (S.point.digit.Ok (k + 1) → S.round.1.Ok (k + 1)) := fun q => by
    obtain ⟨q1, q2, q3, q4, q5, q6, q7, q8, q9⟩ := q
    unfold DS.round DS.after
    split
    · exact ⟨q1, q2, q3, q4, q5, q6, ⟨Nat.le_refl _, q5⟩, q8, q9⟩
    · simp only
      split
      · exact ⟨q1, q2, q3, q4, q5, q6, q7, q8, q9⟩
      · exact ⟨q1, q2, q3, q4, q5, q6, ⟨Nat.le_refl _, q5⟩, q8, q9⟩
  apply key
  have h13 := p13 S.hi S.lo (S.rem / 10) (fun e => by omega) rfl rfl (fun e => by omega)
  refine ⟨by simp [DS.digit, p1], ?_, ?_, ?_, ?_, ?_, ?_, ?_, ?_⟩
  all_goals simp only [DS.digit, DS.phi, p2, p3, p4]
  all_goals omega

theorem ite01 {p : Prop} [Decidable p] : (if p then 0 else 1) ≤ 1 := by split <;> omega
theorem DS.Ok.div0 {S : DS} {k a b c : Nat} (h : S.Ok k) (h1 : a < 18446744073709551616) (h2 : b < 18446744073709551616) (h3 : c < 1000000000) (hr : S.rem = 0) (hz : S.hi = 0 → S.lo = 0 → a = 0 ∧ b = 0 ∧ c = 0) : (⟨S.exp, a, b, S.last, S.i, S.dot, c, S.row⟩ : DS).Ok k := by
  obtain ⟨q1, q2, q3, q4, q5, q6, q7, q8, q9⟩ := h
  refine ⟨q1, h1, h2, h3, q5, ?_, q7, q8, q9⟩
  refine Nat.le_trans (Nat.add_le_add_left ?_ 46) q6
  unfold DS.phi
  simp only
  refine Nat.add_le_add_left ?_ _
  by_cases hq : S.hi = 0 ∧ S.lo = 0
  · obtain ⟨e1, e2, e3⟩ := hz hq.1 hq.2
    rw [if_pos ⟨e1, e2, e3⟩]
    exact Nat.zero_le _
  · rw [if_neg (fun e : S.hi = 0 ∧ S.lo = 0 ∧ S.rem = 0 => hq ⟨e.1, e.2.1⟩)]
    exact ite01

end Go.Proofs.YtpkfdbhpmhahaaaGreatDoor
