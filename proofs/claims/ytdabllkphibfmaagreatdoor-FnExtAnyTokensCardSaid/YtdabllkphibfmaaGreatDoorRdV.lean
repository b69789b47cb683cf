/- A token, as the reference reads it: what a walk keeps. -/
import Derived.Test.YtdabllkphibfmaaGreatDoorRdI
import Derived.Test.YtdabllkphibfmaaGreatDoorRdT
import Derived.Test.YtdabllkphibfmaaGreatDoorExt
import Derived.Deep.RegionWith
namespace Go.Proofs.YtdabllkphibfmaaGreatDoor
open Go Go.RowKit
set_option linter.unusedSimpArgs false
set_option linter.unusedVariables false

def tcells (K : Int) (txt : ByteArray) (N B At : Int) : Array Value := #[.int .i64 K, .string txt, .int .i64 N, .int .u64 B, .int .i64 At]
theorem tcells_one (K : Int) (txt : ByteArray) (N B At : Int) : (tcells K txt N B At).all (·.oneCell') = true := by simp [tcells, Value.oneCell']
theorem size29 : (Tryz.prog.info? 29).map (·.size) = some 5 := by kernel_rfl

/-- The reader stands at q; the variable t holds its five cells; the result is still empty. -/
structure TkW (b : Nat) (s : ByteArray) (q : Nat) (far : Bool) (w : World) (K : Int) (txt : ByteArray) (N B At : Int) (wx : World) : Prop where
  rd : RdAt b s q far wx
  fr : Fb1 b w wx
  r0 : wx.heap[w.heap.size]? = some (.cells (tcells 0 ⟨#[]⟩ 0 0 0) 29 (0, 0))
  t0 : wx.heap[w.heap.size + 1]? = some (.cells (tcells K txt N B At) 29 (0, 0))
  hb : b < w.heap.size

theorem cells5 {wx : World} {g : Nat} {K : Int} {txt : ByteArray} {N B At : Int} (h : wx.heap[g]? = some (.cells (tcells K txt N B At) 29 (0, 0))) :
    wx.cell? ⟨g, 0, none⟩ = some (.int .i64 K) ∧ wx.cell? ⟨g, 1, none⟩ = some (.string txt) ∧ wx.cell? ⟨g, 2, none⟩ = some (.int .i64 N) ∧ wx.cell? ⟨g, 3, none⟩ = some (.int .u64 B) ∧ wx.cell? ⟨g, 4, none⟩ = some (.int .i64 At) ∧ ∀ o, wx.frozen? ⟨g, o, none⟩ = false :=
  ⟨by simp [World.cell?, h, tcells], by simp [World.cell?, h, tcells], by simp [World.cell?, h, tcells], by simp [World.cell?, h, tcells], by simp [World.cell?, h, tcells], fun o => by simp [World.frozen?, h]⟩

section
variable {b : Nat} {s : ByteArray} {q : Nat} {far : Bool} {w : World} {K : Int} {txt : ByteArray} {N B At : Int} {wx wy : World}

theorem TkW.move (h : TkW b s q far w K txt N B At wx) {q' : Nat} {far' : Bool} (hr : RdAt b s q' far' wy) (hf : Fb1 b wx wy) : TkW b s q' far' w K txt N B At wy :=
  ⟨hr, h.fr.trans hf, (hf.block _ (lt_of_heap h.r0) (by have := h.hb; omega)).trans h.r0, (hf.block _ (lt_of_heap h.t0) (by have := h.hb; omega)).trans h.t0, h.hb⟩

theorem TkW.drewN (h : TkW b s q far w K txt N B At wx) (n : Nat) : TkW b s q far w K txt N B At (wx.drewN n) := h.move (h.rd.drewN n) (fb_n (fb_refl b wx) n)
theorem TkW.drew (h : TkW b s q far w K txt N B At wx) : TkW b s q far w K txt N B At wx.drew := h.drewN 1
theorem TkW.go (h : TkW b s q far w K txt N B At wx) (q' : Nat) : TkW b s q' far w K txt N B At (wx.setCell ⟨b, 1, none⟩ (.int .i64 (q' : Nat))) := h.move (h.rd.go q') (fb_set (fb_refl b wx) _ _)

/-- t is written. -/
theorem TkW.put (h : TkW b s q far w K txt N B At wx) {K' : Int} {txt' : ByteArray} {N' B' At' : Int} (o : Nat) (v : Value) (hv : (tcells K txt N B At).setIfInBounds o v = tcells K' txt' N' B' At') : TkW b s q far w K' txt' N' B' At' (wx.setCell ⟨w.heap.size + 1, o, none⟩ v) := by
  have hb := h.hb
  refine ⟨?_, Fr.setCell (p := ⟨w.heap.size + 1, o, none⟩) h.fr (.inr (by simp)) v, ?_, ?_, hb⟩
  · exact (heap_set_ne (by omega)).trans h.rd
  · exact (heap_set_ne (by omega)).trans h.r0
  · rw [heap_set h.t0, hv]
end

/-- What token gives of a text. -/
def TokOk (s : ByteArray) (q0 : Nat) : SubEnd → Array Value → Bool → Nat → Prop
  | .tok k v r', cs, ok, q' => ok = true ∧ cs = (extCells (k, v, q0)).toArray ∧ s.data.toList.drop q' = r'
  | .err, _, ok, _ => ok = false
  | .out, _, _, _ => False

def TokPost (b : Nat) (s : ByteArray) (q0 : Nat) (E : SubEnd) (w : World) (e : Ending) (w' : World) : Prop :=
  ∃ (cs : Array Value) (ok far' : Bool) (q' : Nat), e = .returned (.tuple #[.agg cs, .bool ok]) ∧ (∃ (K : Int) (txt : ByteArray) (N B At : Int), cs = tcells K txt N B At) ∧ q' ≤ s.size ∧ RdAt b s q' far' w' ∧ Fb1 b w w' ∧ (far' = true → ok = false) ∧ (far' = false → TokOk s q0 E cs ok q')

theorem TkW.retRow {b : Nat} {s : ByteArray} {q : Nat} {far : Bool} {w : World} {K : Int} {txt : ByteArray} {N B At : Int} {wx : World} (h : TkW b s q far w K txt N B At wx) (cs : Array Value) :
    (wx.setRow w.heap.size cs).heap[w.heap.size]? = some (.cells cs 29 (0, 0)) ∧ RdAt b s q far (wx.setRow w.heap.size cs) ∧ Fb1 b w (wx.setRow w.heap.size cs) := by
  have hb := h.hb
  refine ⟨setRow_heap _ _ _ _ _ _ h.r0, (setRow_other _ _ _ _ (by omega)).trans h.rd, ⟨h.fr.os, h.fr.tape, h.fr.output, by simpa [World.setRow] using h.fr.size, fun k hk hn => (setRow_other _ _ _ _ (by omega)).trans (h.fr.block k hk hn)⟩⟩

theorem tok_ret {b : Nat} {s : ByteArray} {q q0 : Nat} {far ok : Bool} {w : World} {K : Int} {txt : ByteArray} {N B At : Int} {wx : World} {E : SubEnd} (h : TkW b s q far w K txt N B At wx) (hq : q ≤ s.size) (cs : Array Value)
    (hf : far = true → ok = false) (hok : far = false → TokOk s q0 E cs ok q) (h5 : ∃ (K : Int) (txt : ByteArray) (N B At : Int), cs = tcells K txt N B At := by exact ⟨_, _, _, _, _, rfl⟩) : TokPost b s q0 E w (.returned (.tuple #[.agg cs, .bool ok])) (wx.setRow w.heap.size cs) :=
  ⟨cs, ok, far, q, rfl, h5, hq, (h.retRow cs).2.1, (h.retRow cs).2.2, hf, hok⟩

theorem TkW.cells {b : Nat} {s : ByteArray} {q : Nat} {far : Bool} {w : World} {K : Int} {txt : ByteArray} {N B At : Int} {wx : World} (h : TkW b s q far w K txt N B At wx) :
    (wx.cell? ⟨b, 0, none⟩ = some (.string s) ∧ wx.cell? ⟨b, 1, none⟩ = some (.int .i64 (q : Nat)) ∧ wx.cell? ⟨b, 2, none⟩ = some (.bool far) ∧ ∀ o, wx.frozen? ⟨b, o, none⟩ = false) := by
  have h0 := h.rd
  unfold RdAt at h0
  exact ⟨by simp [World.cell?, h0], by simp [World.cell?, h0], by simp [World.cell?, h0], fun o => by simp [World.frozen?, h0]⟩

end Go.Proofs.YtdabllkphibfmaaGreatDoor
