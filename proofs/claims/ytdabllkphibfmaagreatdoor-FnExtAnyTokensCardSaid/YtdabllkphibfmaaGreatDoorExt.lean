/- ExtTokens, by its contract. -/
import Derived.Test.YtdabllkphibfmaaGreatDoorZz
import Derived.Lib.ConvBytes
namespace Go.Proofs.YtdabllkphibfmaaGreatDoor
open Go Go.RowKit

theorem info29 : (Tryz.prog.info? 29).map (fun i => (i.zero, i.size, i.bytes)) = some (some (.agg #[.int .i64 0, .string ⟨#[]⟩, .int .i64 0, .int .u64 0, .int .i64 0]), 5, 48) := by kernel_rfl

def TV.text : TV → List UInt8
  | .str l => l
  | _ => []
def TV.num : TV → Int
  | .i32 v => v
  | .i64 v => v
  | .bool b => if b then 1 else 0
  | _ => 0
def TV.bits : TV → Nat
  | .f64 b => b
  | _ => 0

theorem as_byte_21 (b : Nat) (w : World) : (Instr.typeAssert (.iface 5 (.int .u8 b)) 20 21 true).run Tryz.prog w = .ok (.tuple #[.int .i32 0, .bool false]) w := by kernel_rfl
theorem as_byte_2 (b : Nat) (w : World) : (Instr.typeAssert (.iface 5 (.int .u8 b)) 20 2 true).run Tryz.prog w = .ok (.tuple #[.int .i64 0, .bool false]) w := by kernel_rfl
theorem as_byte_62 (b : Nat) (w : World) : (Instr.typeAssert (.iface 5 (.int .u8 b)) 20 62 true).run Tryz.prog w = .ok (.tuple #[.float .f64 0, .bool false]) w := by kernel_rfl
theorem as_byte_9 (b : Nat) (w : World) : (Instr.typeAssert (.iface 5 (.int .u8 b)) 20 9 true).run Tryz.prog w = .ok (.tuple #[.string ⟨#[]⟩, .bool false]) w := by kernel_rfl
theorem as_byte_4 (b : Nat) (w : World) : (Instr.typeAssert (.iface 5 (.int .u8 b)) 20 4 true).run Tryz.prog w = .ok (.tuple #[.bool false, .bool false]) w := by kernel_rfl
theorem as_i32_21 (b : Int) (w : World) : (Instr.typeAssert (.iface 21 (.int .i32 b)) 20 21 true).run Tryz.prog w = .ok (.tuple #[.int .i32 b, .bool true]) w := by kernel_rfl
theorem as_i64_21 (b : Int) (w : World) : (Instr.typeAssert (.iface 2 (.int .i64 b)) 20 21 true).run Tryz.prog w = .ok (.tuple #[.int .i32 0, .bool false]) w := by kernel_rfl
theorem as_i64_2 (b : Int) (w : World) : (Instr.typeAssert (.iface 2 (.int .i64 b)) 20 2 true).run Tryz.prog w = .ok (.tuple #[.int .i64 b, .bool true]) w := by kernel_rfl
theorem as_f64_21 (b : Nat) (w : World) : (Instr.typeAssert (.iface 62 (.float .f64 b)) 20 21 true).run Tryz.prog w = .ok (.tuple #[.int .i32 0, .bool false]) w := by kernel_rfl
theorem as_f64_2 (b : Nat) (w : World) : (Instr.typeAssert (.iface 62 (.float .f64 b)) 20 2 true).run Tryz.prog w = .ok (.tuple #[.int .i64 0, .bool false]) w := by kernel_rfl
theorem as_f64_62 (b : Nat) (w : World) : (Instr.typeAssert (.iface 62 (.float .f64 b)) 20 62 true).run Tryz.prog w = .ok (.tuple #[.float .f64 b, .bool true]) w := by kernel_rfl
theorem as_str_21 (b : List UInt8) (w : World) : (Instr.typeAssert (.iface 9 (.string ⟨b.toArray⟩)) 20 21 true).run Tryz.prog w = .ok (.tuple #[.int .i32 0, .bool false]) w := by kernel_rfl
theorem as_str_2 (b : List UInt8) (w : World) : (Instr.typeAssert (.iface 9 (.string ⟨b.toArray⟩)) 20 2 true).run Tryz.prog w = .ok (.tuple #[.int .i64 0, .bool false]) w := by kernel_rfl
theorem as_str_62 (b : List UInt8) (w : World) : (Instr.typeAssert (.iface 9 (.string ⟨b.toArray⟩)) 20 62 true).run Tryz.prog w = .ok (.tuple #[.float .f64 0, .bool false]) w := by kernel_rfl
theorem as_str_9 (b : List UInt8) (w : World) : (Instr.typeAssert (.iface 9 (.string ⟨b.toArray⟩)) 20 9 true).run Tryz.prog w = .ok (.tuple #[.string ⟨b.toArray⟩, .bool true]) w := by kernel_rfl
theorem as_bool_21 (b : Bool) (w : World) : (Instr.typeAssert (.iface 4 (.bool b)) 20 21 true).run Tryz.prog w = .ok (.tuple #[.int .i32 0, .bool false]) w := by kernel_rfl
theorem as_bool_2 (b : Bool) (w : World) : (Instr.typeAssert (.iface 4 (.bool b)) 20 2 true).run Tryz.prog w = .ok (.tuple #[.int .i64 0, .bool false]) w := by kernel_rfl
theorem as_bool_62 (b : Bool) (w : World) : (Instr.typeAssert (.iface 4 (.bool b)) 20 62 true).run Tryz.prog w = .ok (.tuple #[.float .f64 0, .bool false]) w := by kernel_rfl
theorem as_bool_9 (b : Bool) (w : World) : (Instr.typeAssert (.iface 4 (.bool b)) 20 9 true).run Tryz.prog w = .ok (.tuple #[.string ⟨#[]⟩, .bool false]) w := by kernel_rfl
theorem as_bool_4 (b : Bool) (w : World) : (Instr.typeAssert (.iface 4 (.bool b)) 20 4 true).run Tryz.prog w = .ok (.tuple #[.bool b, .bool true]) w := by kernel_rfl
theorem as_nul_21  (w : World) : (Instr.typeAssert (.nilIface) 20 21 true).run Tryz.prog w = .ok (.tuple #[.int .i32 0, .bool false]) w := by kernel_rfl
theorem as_nul_2  (w : World) : (Instr.typeAssert (.nilIface) 20 2 true).run Tryz.prog w = .ok (.tuple #[.int .i64 0, .bool false]) w := by kernel_rfl
theorem as_nul_62  (w : World) : (Instr.typeAssert (.nilIface) 20 62 true).run Tryz.prog w = .ok (.tuple #[.float .f64 0, .bool false]) w := by kernel_rfl
theorem as_nul_9  (w : World) : (Instr.typeAssert (.nilIface) 20 9 true).run Tryz.prog w = .ok (.tuple #[.string ⟨#[]⟩, .bool false]) w := by kernel_rfl
theorem as_nul_4  (w : World) : (Instr.typeAssert (.nilIface) 20 4 true).run Tryz.prog w = .ok (.tuple #[.bool false, .bool false]) w := by kernel_rfl
theorem bits64 (b : Nat) (w : World) : (Extern.MathFloatBits.float64bits #[.float .f64 b]).run Tryz.prog w = .ok (.int .u64 b) w := rfl

/-- A token of package impl, as its cells. -/
def extCells (x : Nat × TV × Nat) : List Value := [.int .i64 x.1, .string ⟨x.2.1.text.toArray⟩, .int .i64 x.2.1.num, .int .u64 x.2.1.bits, .int .i64 x.2.2]

theorem extCells_oneCell (x : Nat × TV × Nat) : ∀ v ∈ extCells x, v.oneCell' = true := by
  intro v hv
  simp only [extCells, List.mem_cons, List.not_mem_nil, or_false] at hv
  rcases hv with rfl | rfl | rfl | rfl | rfl <;> rfl

theorem flatMap_length {α : Type} (f : α → List Value) (n : Nat) (hf : ∀ x, (f x).length = n) (l : List α) : (l.flatMap f).length = l.length * n := by
  induction l with
  | nil => simp
  | cons x l ih => rw [List.flatMap_cons, List.length_append, ih, hf, List.length_cons, Nat.succ_mul, Nat.add_comm]

theorem flatMap_get {α : Type} (f : α → List Value) (n : Nat) (hf : ∀ x, (f x).length = n) (l : List α) (k : Nat) (hk : k < l.length) (j : Nat) (hj : j < n) : (l.flatMap f)[k * n + j]? = (f (l[k]'hk))[j]? := by
  induction l generalizing k with
  | nil => simp at hk
  | cons x l ih =>
    rw [List.flatMap_cons]
    cases k with
    | zero =>
      rw [Nat.zero_mul, Nat.zero_add, List.getElem?_append_left (by rw [hf]; exact hj)]
      rfl
    | succ k =>
      rw [List.getElem?_append_right (by rw [hf, Nat.succ_mul]; omega), hf]
      have e : (k + 1) * n + j - n = k * n + j := by rw [Nat.succ_mul]; omega
      rw [e]
      exact ih k (by simpa using hk)

/-- The cells of the token k. -/
theorem row_tok {w : World} {gs : Nat} {cur : Array Value} {ts : List (Nat × TV × Nat)} (h : w.heap[gs]? = some (.cells cur 61 (0, 0))) (ht : cur.toList.take (ts.length * 3) = ts.flatMap tokCells) (k : Nat) (hk : k < ts.length) (j : Nat) (hj : j < 3) :
    w.cell? ⟨gs, k * 3 + j, none⟩ = (tokCells (ts[k]'hk))[j]? := by
  have h1 := flatMap_get tokCells 3 (fun _ => rfl) ts k hk j hj
  rw [← ht, List.getElem?_take, if_pos (by have : (k + 1) * 3 ≤ ts.length * 3 := Nat.mul_le_mul_right 3 hk; omega)] at h1
  rw [← h1]
  simp [World.cell?, h]

/-- What ExtTokens gives. -/
def ExtPost (B : Nat) (w : World) (ts : List (Nat × TV × Nat)) (ok : Bool) (e : Ending) (w' : World) : Prop :=
  ∃ v, e = .returned (.tuple #[v, .bool ok]) ∧ w'.ownsRow B 29 5 v ts.length (ts.flatMap extCells) ∧ Below B w w'

def TV.inR : TV → Prop
  | .i32 v => -2147483648 ≤ v ∧ v < 2147483648
  | .i64 v => -9223372036854775808 ≤ v ∧ v < 9223372036854775808
  | _ => True

theorem row_form {w : World} {base n : Nat} {v : Value} {xs : List Value} (h : w.ownsRow base 61 3 v n xs) : ∃ ao cap, v = .slice ao n cap ∧ (0 < n → ∃ g cur, ao = some ⟨g, 0, none⟩ ∧ w.heap[g]? = some (.cells cur 61 (0, 0)) ∧ base ≤ g ∧ cur.toList.take (n * 3) = xs) := by
  rcases h.2 with ⟨rfl, h0⟩ | ⟨g, cap, cur, rfl, hb, hh, hr⟩
  · exact ⟨none, 0, by rw [h0], fun h => by omega⟩
  · exact ⟨_, _, rfl, fun _ => ⟨g, cur, rfl, hh, hb, hr.2.2.2⟩⟩

theorem ownBlock_at' {w : World} {base e size n : Nat} {v : Value} {xs : List Value} (h : w.ownsRow base e size v n xs) : ∀ k, v.ownBlock = some k → base ≤ k ∧ ∃ cur, w.heap[k]? = some (.cells cur e (0, 0)) := by
  intro k hk
  rcases h.2 with ⟨rfl, _⟩ | ⟨g, cap, cur, rfl, hb, hh, _⟩
  · simp [Value.ownBlock] at hk
  · simp only [Value.ownBlock, Option.some.injEq] at hk
    subst hk
    exact ⟨hb, cur, hh⟩

/-- The state at the head of the loop. -/
def EZ (B : Nat) (w w1 : World) (ao : Option Addr) (ts : List (Nat × TV × Nat)) (m : Nat) (v i : Value) (wx : World) : Prop :=
  ∃ k : Nat, k ≤ ts.length ∧ m = ts.length - k ∧ i = .int .i64 k ∧ wx.ownsRow B 29 5 v k ((ts.take k).flatMap extCells) ∧ Below B w wx ∧ ∀ g, ao = some ⟨g, 0, none⟩ → wx.heap[g]? = w1.heap[g]?

theorem heap_alloc_new' (w : World) (o : Obj) {n : Nat} (h : w.heap.size = n) : (w.alloc o).heap[n]? = some o := by
  subst h; exact heap_alloc_new w o

theorem ez_step {B : Nat} {w w1 wr w3 : World} {ao : Option Addr} {ts : List (Nat × TV × Nat)} {k gg cap : Nat} {v : Value} {o1 o2 o3 : Obj} {x : Nat × TV × Nat} {cs : List Value} (hB : B = w.heap.size) (hk : k < ts.length) (hx : ts[k]'hk = x) (hown : wr.ownsRow B 29 5 v k ((ts.take k).flatMap extCells)) (hbel : Below B w wr)
    (hrow : ∀ g, ao = some ⟨g, 0, none⟩ → wr.heap[g]? = w1.heap[g]?) (hw1 : ∀ g, ao = some ⟨g, 0, none⟩ → ∃ cur, w1.heap[g]? = some (.cells cur 61 (0, 0)))
    (ho : w3.ownsRow B 29 5 (.slice (some ⟨gg, 0, none⟩) (k + 1) cap) (k + 1) ((ts.take k).flatMap extCells ++ cs)) (hg : (((wr.alloc o1).alloc o2).alloc o3).grownBy w3 v.ownBlock) (hcs : cs = extCells x) : EZ B w w1 ao ts (ts.length - (k + 1)) (.slice (some ⟨gg, 0, none⟩) (k + 1) cap) (.int .i64 (k + 1)) w3 := by
  subst hcs hB
  refine ⟨k + 1, hk, rfl, by simp, ?_, ?_, ?_⟩
  · have e : ts.take (k + 1) = ts.take k ++ [x] := by rw [List.take_succ_eq_append_getElem hk, hx]
    rw [e, List.flatMap_append]
    simpa using ho
  · exact (((hbel.alloc hbel.size _).alloc (by simp; have := hbel.size; omega) _).alloc (by simp; have := hbel.size; omega) _).grown hg (by simp; have := hbel.size; omega) (fun q hq => (ownBlock_at' hown q hq).1)
  · intro g hgo
    obtain ⟨cur, hc⟩ := hw1 g hgo
    have h1 := hrow g hgo
    have hlt : g < wr.heap.size := lt_of_heap (h1.trans hc)
    rw [hg.block g (by simp; omega) ?_, Below.heap_alloc _ _ _ (by simp; omega), Below.heap_alloc _ _ _ (by simp; omega), Below.heap_alloc _ _ _ hlt, h1]
    intro hk
    obtain ⟨_, cur', hc'⟩ := ownBlock_at' hown g hk.symm
    rw [h1, hc] at hc'
    simp at hc'

theorem one_t (w : World) : Calls Tryz.prog 20 #[.bool true] w fun e w' => e = .returned (.int .i64 1) ∧ w = w' := by
  go_enter Tryz.func20, Tryz.ntmps20
  go_wp2
  go_ret
  exact ⟨rfl, rfl⟩

theorem one_f (w : World) : Calls Tryz.prog 20 #[.bool false] w fun e w' => e = .returned (.int .i64 0) ∧ w = w' := by
  go_enter Tryz.func20, Tryz.ntmps20
  go_wp2
  go_ret
  exact ⟨rfl, rfl⟩

theorem ez_end {w wr : World} {ts : List (Nat × TV × Nat)} {ok : Bool} {v : Value} {n : Nat} (ho : wr.ownsRow w.heap.size 29 5 v ts.length ((ts.take ts.length).flatMap extCells)) (hb : Below w.heap.size w wr) : ExtPost w.heap.size w ts ok (.returned (.tuple #[v, .bool ok])) (wr.drewN n) := by
  rw [List.take_length] at ho
  exact ⟨v, rfl, ho, ⟨hb.os, hb.tape, hb.output, hb.size, hb.block⟩⟩

set_option maxRecDepth 1000000 in
set_option maxHeartbeats 4000000 in
theorem extTokens {num lit : UInt8 → List UInt8 → SubEnd} (str : ByteArray) (ea : Addr) (w : World) (heof : w.cell? ⟨1, 0, none⟩ = some (EOFv ea)) (hT : str.size ≤ 1000000)
    (hnum : ∀ s : Sc, s.T = str.data.toList → s.SubC w 52 num) (hlit : ∀ s : Sc, s.T = str.data.toList → s.SubC w 53 lit) (f : Nat) (ts : List (Nat × TV × Nat)) (ok : Bool) (hts : ts.length ≤ 1000000) (hk12 : ∀ x ∈ ts, x.1 < 12) (hir : ∀ x ∈ ts, x.2.1.inR) (hrun : toks num lit str.size f str.data.toList = some (ts, ok)) :
    Calls Tryz.prog 9 #[.string str] w (ExtPost w.heap.size w ts ok) := by
  have hconv := Lib.run_convert_string_bytes (P := Tryz.prog) w 9 31 5 str Tryz.underlying9 Tryz.underlying31 Tryz.underlying5
  have hz := zzTokens (num := num) (lit := lit) str.data.toList w.heap.size (grownCap w str.size 0 5) ea w (Lib.bytesWorld w 5 str) ⟨by rw [Lib.bytesWorld_size]; omega, fun k hk => Lib.bytesWorld_at_old w 5 str k hk⟩ ?hrow ?heof ?hn hT (hnum _ rfl) (hlit _ rfl) f ts ok hts hk12 hrun
  case hrow =>
    refine ⟨_, _, Lib.bytesWorld_at_new w 5 str, ?_⟩
    have e : str.data.toList.length = str.size := rfl
    simp only [Lib.bytesCells, Array.toList_append, Array.toList_map]
    rw [List.take_append_of_le_length (by simp)]
    rw [List.take_of_length_le (by simp)]
    rfl
  case heof => exact (Lib.bytesWorld_old w 5 str ⟨1, 0, none⟩ (World.block_lt_of_cell? w ⟨1, 0, none⟩ heof)).trans heof
  case hn => exact grownCap_ge w str.size 0 5
  have hbel : Below w.heap.size w (Lib.bytesWorld w 5 str) := by
    refine ⟨rfl, rfl, rfl, by rw [Lib.bytesWorld_size]; omega, fun k hk => Lib.bytesWorld_at_old w 5 str k hk⟩
  have HZ := Lib.hid hz
  have HB := Lib.hid hbel
  have hsz : (Lib.bytesWorld w 5 str).heap.size = w.heap.size + 1 := Lib.bytesWorld_size w 5 str
  have HSZ := Lib.hid hsz
  clear hz hbel hsz hrun
  have hB0 : w.heap.size ≤ w.heap.size := Nat.le_refl _
  obtain ⟨i0, hi0, hz0, hz1, hz2⟩ := info_parts info29
  go_enter Tryz.func9, Tryz.ntmps9
  go_wp2_with (first | (go_at_call 18; refine (HZ.out).mono ?_; rintro e w1 ⟨v, ev, rfl, hown, hev, hb1⟩; obtain ⟨ao, cap, rfl, hao⟩ := row_form hown; have HAO := Lib.hid hao; have HEV := Lib.hid hev; have HB1 := Lib.hid hb1; clear hown hev hb1 hao))
  have hB1 : Below w.heap.size w w1 := HB.out.trans (HB1.out.mono (by rw [HSZ.out]; omega))
  have HB2 := Lib.hid hB1
  clear hB1
  go_loopg [6, 23] ts.length (fun m v i wx => Aside (EZ w.heap.size w w1 ao ts m v i wx))
  case atStart =>
    exact ⟨0, by omega, by omega, rfl, World.ownsRow_nil _ _ _ _, HB2.out, fun g _ => rfl⟩
  case round =>
    obtain ⟨k, hk, hgk, rfl, hown, hbel, hrow⟩ := hrel.out
    clear hrel
    have HOWN := Lib.hid hown
    have HBEL := Lib.hid hbel
    have HROW := Lib.hid hrow
    clear hown hbel hrow
    by_cases hkn : k < ts.length
    · obtain ⟨g, cur, rfl, hg1, hg2, hg3⟩ := HAO.out (by omega)
      have hgr : wr.heap[g]? = some (.cells cur 61 (0, 0)) := by rw [HROW.out g rfl]; exact hg1
      have hc0 := row_tok hgr hg3 k hkn 0 (by omega)
      have hc1 := row_tok hgr hg3 k hkn 1 (by omega)
      have hc2 := row_tok hgr hg3 k hkn 2 (by omega)
      obtain ⟨⟨K, V, N⟩, hx⟩ : ∃ x, x = ts[k]'hkn := ⟨_, rfl⟩
      have hxm : (K, V, N) ∈ ts := by rw [hx]; exact List.getElem_mem hkn
      have hK := hk12 _ hxm
      have hR := hir _ hxm
      simp only [← hx, tokCells, List.getElem?_cons_zero, List.getElem?_cons_succ, Nat.add_zero] at hc0 hc1 hc2
      have HX := Lib.hid hx
      have HG := Lib.hid (And.intro hgr (And.intro hg2 hg3))
      clear hx hg1 hg2 hg3 hgr hxm
      cases V with
      | byte b =>
        have h_as_byte_21 := as_byte_21 b
        have h_as_byte_2 := as_byte_2 b
        have h_as_byte_62 := as_byte_62 b
        have h_as_byte_9 := as_byte_9 b
        have h_as_byte_4 := as_byte_4 b
        simp only [TV.val] at hc1
        go_wp2_with (first | (at_builtin; refine wpList_append_lies _ (by rfl) _ _ _ (by rfl) w.heap.size 29 i0 _ 5 48 Tryz.underlying22 hi0 hz0 hz1 hz2 rfl (by omega) u6 k ((ts.take k).flatMap extCells) (by rfl) (((HOWN.out.alloc _).alloc _).alloc _) ⟨wr.heap.size + 2, 0, none⟩ 1 1 [.int .i64 K, .string ⟨#[]⟩, .int .i64 0, .int .u64 0, .int .i64 N] (by rfl) (by rfl) (World.news_of_block (cs := #[.int .i64 K, .string ⟨#[]⟩, .int .i64 0, .int .u64 0, .int .i64 N]) (t := 29) (fr := (0, 0)) (heap_alloc_new' _ _ (by simp))) (by simp [Value.oneCell']) (by omega) (by unfold maxLen; omega) (by omega) (by have := HBEL.out.size; simp; omega) (wr.heap.size + 3) (by simp) ?_; intro gg cap3 w3 hown3 hgrow hat hlt; have HO3 := Lib.hid hown3; have HG3 := Lib.hid hgrow; clear hown3 hgrow hat))
        have hrel2 := ez_step (w1 := w1) (ao := some ⟨g, 0, none⟩) rfl hkn HX.out.symm HOWN.out HBEL.out HROW.out (by rintro q hq; injection hq with hq; injection hq with hq; subst hq; exact ⟨cur, by rw [← HROW.out g rfl]; exact HG.out.1⟩) HO3.out HG3.out (by rfl)
        have HR2 := Lib.hid hrel2
        clear hrel2
        go_wp2
        go_roundg (ts.length - (k + 1))
        case measure => omega
        case rel => exact HR2.out
      | i32 b =>
        have h_as_i32_21 := as_i32_21 b
        simp only [TV.val] at hc1
        simp only [TV.inR] at hR
        go_wp2_with (first | (at_builtin; refine wpList_append_lies _ (by rfl) _ _ _ (by rfl) w.heap.size 29 i0 _ 5 48 Tryz.underlying22 hi0 hz0 hz1 hz2 rfl (by omega) u6 k ((ts.take k).flatMap extCells) (by rfl) (((HOWN.out.alloc _).alloc _).alloc _) ⟨wr.heap.size + 2, 0, none⟩ 1 1 [.int .i64 K, .string ⟨#[]⟩, .int .i64 b, .int .u64 0, .int .i64 N] (by rfl) (by rfl) (World.news_of_block (cs := #[.int .i64 K, .string ⟨#[]⟩, .int .i64 b, .int .u64 0, .int .i64 N]) (t := 29) (fr := (0, 0)) (heap_alloc_new' _ _ (by simp))) (by simp [Value.oneCell']) (by omega) (by unfold maxLen; omega) (by omega) (by have := HBEL.out.size; simp; omega) (wr.heap.size + 3) (by simp) ?_; intro gg cap3 w3 hown3 hgrow hat hlt; have HO3 := Lib.hid hown3; have HG3 := Lib.hid hgrow; clear hown3 hgrow hat))
        have hrel2 := ez_step (w1 := w1) (ao := some ⟨g, 0, none⟩) rfl hkn HX.out.symm HOWN.out HBEL.out HROW.out (by rintro q hq; injection hq with hq; injection hq with hq; subst hq; exact ⟨cur, by rw [← HROW.out g rfl]; exact HG.out.1⟩) HO3.out HG3.out (by rfl)
        have HR2 := Lib.hid hrel2
        clear hrel2
        go_wp2
        go_roundg (ts.length - (k + 1))
        case measure => omega
        case rel => exact HR2.out
      | i64 b =>
        have h_as_i64_21 := as_i64_21 b
        have h_as_i64_2 := as_i64_2 b
        simp only [TV.val] at hc1
        simp only [TV.inR] at hR
        go_wp2_with (first | (at_builtin; refine wpList_append_lies _ (by rfl) _ _ _ (by rfl) w.heap.size 29 i0 _ 5 48 Tryz.underlying22 hi0 hz0 hz1 hz2 rfl (by omega) u6 k ((ts.take k).flatMap extCells) (by rfl) (((HOWN.out.alloc _).alloc _).alloc _) ⟨wr.heap.size + 2, 0, none⟩ 1 1 [.int .i64 K, .string ⟨#[]⟩, .int .i64 b, .int .u64 0, .int .i64 N] (by rfl) (by rfl) (World.news_of_block (cs := #[.int .i64 K, .string ⟨#[]⟩, .int .i64 b, .int .u64 0, .int .i64 N]) (t := 29) (fr := (0, 0)) (heap_alloc_new' _ _ (by simp))) (by simp [Value.oneCell']) (by omega) (by unfold maxLen; omega) (by omega) (by have := HBEL.out.size; simp; omega) (wr.heap.size + 3) (by simp) ?_; intro gg cap3 w3 hown3 hgrow hat hlt; have HO3 := Lib.hid hown3; have HG3 := Lib.hid hgrow; clear hown3 hgrow hat))
        have hrel2 := ez_step (w1 := w1) (ao := some ⟨g, 0, none⟩) rfl hkn HX.out.symm HOWN.out HBEL.out HROW.out (by rintro q hq; injection hq with hq; injection hq with hq; subst hq; exact ⟨cur, by rw [← HROW.out g rfl]; exact HG.out.1⟩) HO3.out HG3.out (by rfl)
        have HR2 := Lib.hid hrel2
        clear hrel2
        go_wp2
        go_roundg (ts.length - (k + 1))
        case measure => omega
        case rel => exact HR2.out
      | f64 b =>
        have h_as_f64_21 := as_f64_21 b
        have h_as_f64_2 := as_f64_2 b
        have h_as_f64_62 := as_f64_62 b
        simp only [TV.val] at hc1
        have h19 := @run_callFunc_extern Tryz.prog 19 _ Extern.MathFloatBits.float64bits Tryz.func19 (by kernel_rfl) (by kernel_rfl) (by kernel_rfl) (by kernel_rfl)
        have h19b := bits64 b
        go_wp2_with (first | (at_builtin; refine wpList_append_lies _ (by rfl) _ _ _ (by rfl) w.heap.size 29 i0 _ 5 48 Tryz.underlying22 hi0 hz0 hz1 hz2 rfl (by omega) u6 k ((ts.take k).flatMap extCells) (by rfl) (((HOWN.out.alloc _).alloc _).alloc _) ⟨wr.heap.size + 2, 0, none⟩ 1 1 [.int .i64 K, .string ⟨#[]⟩, .int .i64 0, .int .u64 b, .int .i64 N] (by rfl) (by rfl) (World.news_of_block (cs := #[.int .i64 K, .string ⟨#[]⟩, .int .i64 0, .int .u64 b, .int .i64 N]) (t := 29) (fr := (0, 0)) (heap_alloc_new' _ _ (by simp))) (by simp [Value.oneCell']) (by omega) (by unfold maxLen; omega) (by omega) (by have := HBEL.out.size; simp; omega) (wr.heap.size + 3) (by simp) ?_; intro gg cap3 w3 hown3 hgrow hat hlt; have HO3 := Lib.hid hown3; have HG3 := Lib.hid hgrow; clear hown3 hgrow hat))
        have hrel2 := ez_step (w1 := w1) (ao := some ⟨g, 0, none⟩) rfl hkn HX.out.symm HOWN.out HBEL.out HROW.out (by rintro q hq; injection hq with hq; injection hq with hq; subst hq; exact ⟨cur, by rw [← HROW.out g rfl]; exact HG.out.1⟩) HO3.out HG3.out (by rfl)
        have HR2 := Lib.hid hrel2
        clear hrel2
        go_wp2
        go_roundg (ts.length - (k + 1))
        case measure => omega
        case rel => exact HR2.out
      | str b =>
        have h_as_str_21 := as_str_21 b
        have h_as_str_2 := as_str_2 b
        have h_as_str_62 := as_str_62 b
        have h_as_str_9 := as_str_9 b
        simp only [TV.val] at hc1
        go_wp2_with (first | (at_builtin; refine wpList_append_lies _ (by rfl) _ _ _ (by rfl) w.heap.size 29 i0 _ 5 48 Tryz.underlying22 hi0 hz0 hz1 hz2 rfl (by omega) u6 k ((ts.take k).flatMap extCells) (by rfl) (((HOWN.out.alloc _).alloc _).alloc _) ⟨wr.heap.size + 2, 0, none⟩ 1 1 [.int .i64 K, .string ⟨b.toArray⟩, .int .i64 0, .int .u64 0, .int .i64 N] (by rfl) (by rfl) (World.news_of_block (cs := #[.int .i64 K, .string ⟨b.toArray⟩, .int .i64 0, .int .u64 0, .int .i64 N]) (t := 29) (fr := (0, 0)) (heap_alloc_new' _ _ (by simp))) (by simp [Value.oneCell']) (by omega) (by unfold maxLen; omega) (by omega) (by have := HBEL.out.size; simp; omega) (wr.heap.size + 3) (by simp) ?_; intro gg cap3 w3 hown3 hgrow hat hlt; have HO3 := Lib.hid hown3; have HG3 := Lib.hid hgrow; clear hown3 hgrow hat))
        have hrel2 := ez_step (w1 := w1) (ao := some ⟨g, 0, none⟩) rfl hkn HX.out.symm HOWN.out HBEL.out HROW.out (by rintro q hq; injection hq with hq; injection hq with hq; subst hq; exact ⟨cur, by rw [← HROW.out g rfl]; exact HG.out.1⟩) HO3.out HG3.out (by rfl)
        have HR2 := Lib.hid hrel2
        clear hrel2
        go_wp2
        go_roundg (ts.length - (k + 1))
        case measure => omega
        case rel => exact HR2.out
      | bool b =>
        cases b with
        | true =>
          have h_as_bool_21 := as_bool_21 true
          have h_as_bool_2 := as_bool_2 true
          have h_as_bool_62 := as_bool_62 true
          have h_as_bool_9 := as_bool_9 true
          have h_as_bool_4 := as_bool_4 true
          simp only [TV.val] at hc1
          go_wp2_with (first | (go_at_call 20; refine (one_t _).mono ?_; rintro e w9 ⟨rfl, rfl⟩) | (at_builtin; refine wpList_append_lies _ (by rfl) _ _ _ (by rfl) w.heap.size 29 i0 _ 5 48 Tryz.underlying22 hi0 hz0 hz1 hz2 rfl (by omega) u6 k ((ts.take k).flatMap extCells) (by rfl) (((HOWN.out.alloc _).alloc _).alloc _) ⟨wr.heap.size + 2, 0, none⟩ 1 1 [.int .i64 K, .string ⟨#[]⟩, .int .i64 1, .int .u64 0, .int .i64 N] (by rfl) (by rfl) (World.news_of_block (cs := #[.int .i64 K, .string ⟨#[]⟩, .int .i64 1, .int .u64 0, .int .i64 N]) (t := 29) (fr := (0, 0)) (heap_alloc_new' _ _ (by simp))) (by simp [Value.oneCell']) (by omega) (by unfold maxLen; omega) (by omega) (by have := HBEL.out.size; simp; omega) (wr.heap.size + 3) (by simp) ?_; intro gg cap3 w3 hown3 hgrow hat hlt; have HO3 := Lib.hid hown3; have HG3 := Lib.hid hgrow; clear hown3 hgrow hat))
          have hrel2 := ez_step (w1 := w1) (ao := some ⟨g, 0, none⟩) rfl hkn HX.out.symm HOWN.out HBEL.out HROW.out (by rintro q hq; injection hq with hq; injection hq with hq; subst hq; exact ⟨cur, by rw [← HROW.out g rfl]; exact HG.out.1⟩) HO3.out HG3.out (by rfl)
          have HR2 := Lib.hid hrel2
          clear hrel2
          go_wp2
          go_roundg (ts.length - (k + 1))
          case measure => omega
          case rel => exact HR2.out
        | false =>
          have h_as_bool_21 := as_bool_21 false
          have h_as_bool_2 := as_bool_2 false
          have h_as_bool_62 := as_bool_62 false
          have h_as_bool_9 := as_bool_9 false
          have h_as_bool_4 := as_bool_4 false
          simp only [TV.val] at hc1
          go_wp2_with (first | (go_at_call 20; refine (one_f _).mono ?_; rintro e w9 ⟨rfl, rfl⟩) | (at_builtin; refine wpList_append_lies _ (by rfl) _ _ _ (by rfl) w.heap.size 29 i0 _ 5 48 Tryz.underlying22 hi0 hz0 hz1 hz2 rfl (by omega) u6 k ((ts.take k).flatMap extCells) (by rfl) (((HOWN.out.alloc _).alloc _).alloc _) ⟨wr.heap.size + 2, 0, none⟩ 1 1 [.int .i64 K, .string ⟨#[]⟩, .int .i64 0, .int .u64 0, .int .i64 N] (by rfl) (by rfl) (World.news_of_block (cs := #[.int .i64 K, .string ⟨#[]⟩, .int .i64 0, .int .u64 0, .int .i64 N]) (t := 29) (fr := (0, 0)) (heap_alloc_new' _ _ (by simp))) (by simp [Value.oneCell']) (by omega) (by unfold maxLen; omega) (by omega) (by have := HBEL.out.size; simp; omega) (wr.heap.size + 3) (by simp) ?_; intro gg cap3 w3 hown3 hgrow hat hlt; have HO3 := Lib.hid hown3; have HG3 := Lib.hid hgrow; clear hown3 hgrow hat))
          have hrel2 := ez_step (w1 := w1) (ao := some ⟨g, 0, none⟩) rfl hkn HX.out.symm HOWN.out HBEL.out HROW.out (by rintro q hq; injection hq with hq; injection hq with hq; subst hq; exact ⟨cur, by rw [← HROW.out g rfl]; exact HG.out.1⟩) HO3.out HG3.out (by rfl)
          have HR2 := Lib.hid hrel2
          clear hrel2
          go_wp2
          go_roundg (ts.length - (k + 1))
          case measure => omega
          case rel => exact HR2.out
      | nul =>
        have h_as_nul_21 := as_nul_21
        have h_as_nul_2 := as_nul_2
        have h_as_nul_62 := as_nul_62
        have h_as_nul_9 := as_nul_9
        have h_as_nul_4 := as_nul_4
        simp only [TV.val] at hc1
        go_wp2_with (first | (at_builtin; refine wpList_append_lies _ (by rfl) _ _ _ (by rfl) w.heap.size 29 i0 _ 5 48 Tryz.underlying22 hi0 hz0 hz1 hz2 rfl (by omega) u6 k ((ts.take k).flatMap extCells) (by rfl) (((HOWN.out.alloc _).alloc _).alloc _) ⟨wr.heap.size + 2, 0, none⟩ 1 1 [.int .i64 K, .string ⟨#[]⟩, .int .i64 0, .int .u64 0, .int .i64 N] (by rfl) (by rfl) (World.news_of_block (cs := #[.int .i64 K, .string ⟨#[]⟩, .int .i64 0, .int .u64 0, .int .i64 N]) (t := 29) (fr := (0, 0)) (heap_alloc_new' _ _ (by simp))) (by simp [Value.oneCell']) (by omega) (by unfold maxLen; omega) (by omega) (by have := HBEL.out.size; simp; omega) (wr.heap.size + 3) (by simp) ?_; intro gg cap3 w3 hown3 hgrow hat hlt; have HO3 := Lib.hid hown3; have HG3 := Lib.hid hgrow; clear hown3 hgrow hat))
        have hrel2 := ez_step (w1 := w1) (ao := some ⟨g, 0, none⟩) rfl hkn HX.out.symm HOWN.out HBEL.out HROW.out (by rintro q hq; injection hq with hq; injection hq with hq; subst hq; exact ⟨cur, by rw [← HROW.out g rfl]; exact HG.out.1⟩) HO3.out HG3.out (by rfl)
        have HR2 := Lib.hid hrel2
        clear hrel2
        go_wp2
        go_roundg (ts.length - (k + 1))
        case measure => omega
        case rel => exact HR2.out
    · have hke : k = ts.length := by omega
      subst hke
      cases ok with
      | true =>
        have hev := HEV.out
        simp only [if_true] at hev
        subst hev
        go_wp2
        go_quiet (fail)
        go_wp2
        go_ret2
        exact ez_end HOWN.out HBEL.out
      | false =>
        have hev := HEV.out
        simp only [Bool.false_eq_true, if_false] at hev
        obtain ⟨te, ye, rfl⟩ := hev
        go_wp2
        go_quiet (fail)
        go_wp2
        go_ret2
        exact ez_end HOWN.out HBEL.out

end Go.Proofs.YtdabllkphibfmaaGreatDoor
