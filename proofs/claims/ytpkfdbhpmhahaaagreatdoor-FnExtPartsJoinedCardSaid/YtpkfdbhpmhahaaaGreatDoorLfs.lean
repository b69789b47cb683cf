/- Leaves of the writer: a regular expression's options in order. -/
import Derived.Test.YtpkfdbhpmhahaaaGreatDoorGc
import Derived.Laws.Cover4
import Derived.Laws.IdiomStrings
import Derived.Shelf.GgSortMore.SortSort
namespace Go.Proofs.YtpkfdbhpmhahaaaGreatDoor
open Go Go.RowKit Go.Lib Go.Sort
set_option linter.unusedSimpArgs false
set_option linter.unusedVariables false

def runesL (s : ByteArray) : Nat → Nat → List Int
  | 0, _ => []
  | b + 1, i => if i < s.size then Int.ofNat (Utf8.decode s i).1 :: runesL s b (i + (Utf8.decode s i).2) else []
theorem runesFrom_eq (s : ByteArray) : ∀ (b i : Nat) (acc : Array Value), Conv.runesFrom s b i acc = acc ++ ((runesL s b i).map (Value.int .i32)).toArray
  | 0, i, acc => by simp [Conv.runesFrom, runesL]
  | b + 1, i, acc => by
    unfold Conv.runesFrom runesL
    split
    · show Conv.runesFrom s b (i + (Utf8.decode s i).2) (acc.push (.int .i32 (Int.ofNat (Utf8.decode s i).1))) = _
      rw [runesFrom_eq s b _ _]; simp
    · simp
theorem runesL_length (s : ByteArray) : ∀ (b i : Nat), (runesL s b i).length ≤ b
  | 0, i => by simp [runesL]
  | b + 1, i => by
    unfold runesL
    split
    · have := runesL_length s b (i + (Utf8.decode s i).2); simp; omega
    · simp

theorem opt_len_reached (p : Option Addr) (n c : Nat) : Reaches Tryz.prog 159 (.slice p n c) "Len" 200 := ⟨fun _ => by kernel_rfl, enters_of Tryz.func200 (by kernel_rfl) rfl⟩
theorem opt_less_reached (p : Option Addr) (n c : Nat) : Reaches Tryz.prog 159 (.slice p n c) "Less" 201 := ⟨fun _ => by kernel_rfl, enters_of Tryz.func201 (by kernel_rfl) rfl⟩
theorem opt_swap_reached (p : Option Addr) (n c : Nat) : Reaches Tryz.prog 159 (.slice p n c) "Swap" 202 := ⟨fun _ => by kernel_rfl, enters_of Tryz.func202 (by kernel_rfl) rfl⟩

theorem opt_Len (p : Option Addr) (n c : Nat) (W : World) : LenM Tryz.prog 200 (.slice p n c) n W := by
  unfold LenM
  go_enter Tryz.func200, Tryz.ntmps200
  go_wp2
  go_ret
  exact ⟨rfl, 0, rfl⟩

set_option maxHeartbeats 2000000 in
theorem opt_Less (blk off c size : Nat) (W : World) (G : Nat → Int) (hc : ∀ t, t < size → W.cell? ⟨blk, off + t, none⟩ = some (.int .i32 (G t))) (i j : Nat) (hi : i < size) (hj : j < size) (_hsz : size < 4611686018427387904) :
    Calls Tryz.prog 201 #[.slice (some ⟨blk, off, none⟩) size c, .int .i64 i, .int .i64 j] W fun e w' => e = .returned (.bool (decide (G i < G j))) ∧ ∃ q, w' = W.drewN q := by
  have ci := hc i hi
  have cj := hc j hj
  go_enter Tryz.func201, Tryz.ntmps201
  go_wp2
  go_quiet (fail)
  go_wp2
  go_ret
  exact ⟨rfl, nq, rfl⟩

set_option maxHeartbeats 2000000 in
theorem opt_Swap (blk off c size : Nat) (W : World) (x y : Int) (i j : Nat) (hi : i < size) (hj : j < size) (_hsz : size < 4611686018427387904)
    (ci : W.cell? ⟨blk, off + i, none⟩ = some (.int .i32 x)) (cj : W.cell? ⟨blk, off + j, none⟩ = some (.int .i32 y)) (fi : W.frozen? ⟨blk, off + i, none⟩ = false) (fj : W.frozen? ⟨blk, off + j, none⟩ = false) :
    Calls Tryz.prog 202 #[.slice (some ⟨blk, off, none⟩) size c, .int .i64 i, .int .i64 j] W fun e w' => e = .returned (.tuple #[]) ∧ ∃ q, w' = ((W.setCell ⟨blk, off + i, none⟩ (.int .i32 y)).setCell ⟨blk, off + j, none⟩ (.int .i32 x)).drewN q := by
  obtain ⟨v', hy'⟩ := cell?_setCell_some (w := W) (p := ⟨blk, off + i, none⟩) (x := .int .i32 y) (q := ⟨blk, off + j, none⟩) cj
  go_enter Tryz.func202, Tryz.ntmps202
  go_wp2
  go_region
  all_goals (try go_wp2)
  all_goals go_end0
  all_goals exact ⟨rfl, 1, rfl⟩

theorem opt_LessM (blk off c : Nat) (d : Array Int) (w : World) (hH : Holds (Value.int .i32) w blk off d) (hblk : blk < w.heap.size) (hsz : d.size < 4611686018427387904) :
    LessM Tryz.prog 201 (.slice (some ⟨blk, off, none⟩) d.size c) (Value.int .i32) ltInt blk off d.size w := fun m os dk hs i j hi hj =>
  opt_Less blk off c d.size _ (fun t => dk[t]!) (fun t ht => ((holds_sortWorld (Value.int .i32) w blk off m d dk os hblk hH hs) t (by omega)).1) i j hi hj hsz
theorem opt_SwapM (blk off c size : Nat) (hsz : size < 4611686018427387904) : SwapM Tryz.prog 202 (.slice (some ⟨blk, off, none⟩) size c) (Value.int .i32) blk off size := fun W dk hH hs i j hi hj =>
  opt_Swap blk off c size W dk[i]! dk[j]! i j hi hj hsz (hH i (by omega)).1 (hH j (by omega)).1 (hH i (by omega)).2 (hH j (by omega)).2

def sortD (d : Array Int) : Array Int := if d.size ≤ 1 then d else pdq ltInt d 0 d.size (Lib.bitLen d.size) true true
/-- The text with its letters in order. -/
def sortT (s : ByteArray) : ByteArray := runesBytes (sortD (runesL s s.size 0).toArray).toList

theorem sortD_size (d : Array Int) : (sortD d).size = d.size := by
  unfold sortD
  split
  · rfl
  · exact (pdq_sorts ltInt swo_ltInt d 0 d.size _ true true (Nat.zero_le _) (Nat.le_refl _) (Or.inl rfl)).1.1

/-- sort.Sort on the letters' row. -/
theorem opt_sort (d : Array Int) (blk c : Nat) (hsz : d.size < 4611686018427387904) (w : World) (hH : Holds (Value.int .i32) w blk 0 d) (hblk : blk < w.heap.size) :
    Calls Tryz.prog 99 #[.iface 159 (.slice (some ⟨blk, 0, none⟩) d.size c)] w fun e w' => e = .returned (.tuple #[]) ∧ Holds (Value.int .i32) w' blk 0 (sortD d) ∧ Below blk w w' := by
  by_cases h2 : d.size ≤ 1
  · refine (Tryz.sort_Sort_tiny (α := Int) 159 _ 200 (opt_len_reached _ _ _) d.size h2 w (opt_Len _ _ _ _)).mono ?_
    rintro e w' ⟨rfl, q, rfl⟩
    refine ⟨rfl, ?_, below_dn (Below.refl _ _) q⟩
    unfold sortD
    rw [if_pos h2]
    exact hH
  · refine (Tryz.sort_Sort_eq 159 _ 200 201 202 (opt_len_reached _ _ _) (opt_less_reached _ _ _) (opt_swap_reached _ _ _) (Value.int .i32) ltInt swo_ltInt blk 0 d (by omega) hsz w (opt_Len _ _ _ _) (opt_LessM blk 0 c d w hH hblk hsz) (opt_SwapM blk 0 c d.size hsz) hH hblk).mono ?_
    rintro e w' ⟨rfl, m, os, rfl⟩
    have hs := sortD_size d
    have e1 : sortD d = pdq ltInt d 0 d.size (Lib.bitLen d.size) true true := by unfold sortD; rw [if_neg h2]
    rw [← e1]
    refine ⟨rfl, holds_sortWorld (Value.int .i32) w blk 0 m d (sortD d) os hblk hH hs, rfl, rfl, rfl, ?_, fun k hk => ?_⟩
    · show w.heap.size ≤ ((putRow _ _ _ _ _).heap ++ os).size
      rw [Array.size_append, size_putRow]
      exact Nat.le_add_right _ _
    · show ((putRow _ _ _ _ _).heap ++ os)[k]? = _
      rw [Array.getElem?_append_left (by rw [size_putRow]; exact Nat.lt_trans hk hblk)]
      have hne : blk ≠ k := by omega
      simp [putRow, mapBlock, Array.getElem?_modify, hne, Sort.ahead]

theorem opt_conv (s : ByteArray) (hs : s.size ≤ 1000000) (w : World) : ∃ C W1, (convert 9 158 (.string s)).run Tryz.prog w = .ok (.slice (some ⟨w.heap.size, 0, none⟩) (runesL s s.size 0).toArray.size C) W1 ∧ Holds (Value.int .i32) W1 w.heap.size 0 (runesL s s.size 0).toArray ∧ Below w.heap.size w W1 ∧ w.heap.size < W1.heap.size := by
  have hA := runesFrom_eq s s.size 0 #[]
  rw [Array.empty_append] at hA
  have hsz : (Conv.runesFrom s s.size 0 #[]).size = (runesL s s.size 0).toArray.size := by rw [hA]; simp
  have hl := runesL_length s s.size 0
  have h := run_runes_of_string (P := Tryz.prog) w 9 158 21 s Tryz.underlying9 Tryz.underlying158 Tryz.underlying21 (by rw [hsz, List.size_toArray]; omega)
  rw [hsz] at h
  refine ⟨_, _, h, fun j hj => ⟨?_, World.frozen?_alloc_new _ _ _ _⟩, (below_drew (Below.refl _ _)).alloc (Nat.le_refl _) _, by simp⟩
  rw [Nat.zero_add]
  refine (World.cell?_alloc_new w.drew _ _ j).trans ?_
  have hj2 : j < (runesL s s.size 0).length := by simpa using hj
  rw [hA, Array.getElem?_append_left (by simpa using hj2), getElem!_pos _ j hj]
  simp [hj2]

set_option maxRecDepth 100000 in
set_option maxHeartbeats 2000000 in
theorem sortStr (s : ByteArray) (hs : s.size ≤ 1000000) (w : World) : Calls Tryz.prog 84 #[.string s] w (Txt (sortT s) w) := by
  obtain ⟨C, W1, hcv, hH, hb, hlt⟩ := opt_conv s hs w
  have hl := runesL_length s s.size 0
  have hD : (runesL s s.size 0).toArray.size < 4611686018427387904 := by rw [List.size_toArray]; omega
  obtain ⟨T, hT⟩ : ∃ T, T = sortT s := ⟨_, rfl⟩
  rw [← hT]
  unfold sortT at hT
  generalize (runesL s s.size 0).toArray = d at hcv hH hD hT
  obtain ⟨n, hn⟩ : ∃ n, n = d.size := ⟨_, rfl⟩
  have hsrt := opt_sort d w.heap.size C hD W1 hH hlt
  rw [← hn] at hcv hsrt
  have hback : ∀ w', Holds (Value.int .i32) w' w.heap.size 0 (sortD d) → (convert 158 9 (.slice (some ⟨w.heap.size, 0, none⟩) n C)).run Tryz.prog w' = .ok (.string T) w' := fun w' h' => by
    have hz := sortD_size d
    have h2 := run_convert_runes (P := Tryz.prog) w' 158 9 21 ⟨w.heap.size, 0, none⟩ n C (sortD d).toList (by rw [Array.length_toList]; omega) Tryz.underlying158 Tryz.underlying21 Tryz.underlying9 (fun j hj => by
      have hj2 : j < (sortD d).size := by simpa using hj
      rw [Lib.add_plain, (h' j hj2).1, getElem!_pos _ j hj2]
      simp [List.getD, hj2])
    rw [List.take_of_length_le (by rw [Array.length_toList]; omega), ← hT] at h2
    exact h2
  have HS := Lib.hid hsrt
  have HBK := Lib.hid hback
  have HB := Lib.hid hb
  have HLT := Lib.hid (Nat.le_of_lt hlt)
  clear hsrt hback hH hb hlt hl hD hT hs hn
  go_enter Tryz.func84, Tryz.ntmps84
  go_wp2_with (first | (go_at_call 99; refine HS.out.mono ?_; rintro e w2 ⟨rfl, hh, hbb⟩; have hcb := HBK.out w2 hh; have HB2 := Lib.hid (HB.out.trans hbb); clear hh hbb))
  go_ret
  exact ⟨rfl, HB2.out⟩

end Go.Proofs.YtpkfdbhpmhahaaaGreatDoor
