/- The writer's last byte: what a closing bracket does. -/
import Derived.Test.YtpkfdbhpmhahaaaGreatDoorWse
namespace Go.Proofs.YtpkfdbhpmhahaaaGreatDoor
open Go Go.RowKit
set_option linter.unusedSimpArgs false
set_option linter.unusedVariables false

/-- A closing bracket stands for the last comma, or behind what is there. -/
def closeB (pre : List UInt8) (x c : UInt8) : List UInt8 := if x = 44 then pre ++ [c] else pre ++ [x] ++ [c]

section
variable {base gw : Nat} {iv : Value} {can : Bool} {bs pre : List UInt8} {ms0 : List Int} {m : Int} {bv bv0 : Value} {gs gs0 n cap g ln cv : Nat} {w w0 : World} {x c : UInt8}

theorem Wr.lastcell (h : Wr base gw iv can (pre ++ [x]) ms0 m bv gs n cap w) : ∃ g cv, bv = .slice (some ⟨g, 0, none⟩) (pre.length + 1) cv ∧ w.cell? ⟨g, pre.length, none⟩ = some (.int .u8 (x.toNat : Int)) ∧ (∀ o, w.frozen? ⟨g, o, none⟩ = false) ∧ pre.length + 1 ≤ cv := by
  have hl : (pre ++ [x]).length = pre.length + 1 := by simp
  have hb := h.buf
  rcases hb.2 with ⟨_, h0⟩ | ⟨g, cap', cur, hv, hbb, hg, hn, hc, hs, ht⟩
  · rw [hl] at h0; cases h0
  · rw [hl] at hv hn
    refine ⟨g, cap', hv, ?_, fun o => by simp [World.frozen?, hg], hn⟩
    have := row_cell (bs := pre ++ [x]) hg (by rw [Nat.mul_one] at ht; exact ht) pre.length (by simp)
    simpa using this

theorem Wr.setlast (h : Wr base gw iv can (pre ++ [x]) ms0 m (.slice (some ⟨g, 0, none⟩) ln cv) gs n cap w) (c : UInt8) :
    Wr base gw iv can (pre ++ [c]) ms0 m (.slice (some ⟨g, 0, none⟩) ln cv) gs n cap (w.setCell ⟨g, pre.length, none⟩ (.int .u8 (c.toNat : Int))) := by
  have hn2 : g ≠ gw := by have := h.ne2; simpa [Value.ownBlock] using this
  have hn3 : g ≠ gs := by have := h.ne3; simpa [Value.ownBlock] using this
  obtain ⟨cur, hcu, hr⟩ := h.stk
  refine ⟨h.hgw, h.hgs, (heap_set_ne (Ne.symm hn2)).trans h.blk, ?_, ⟨cur, (heap_set_ne (Ne.symm hn3)).trans hcu, hr⟩, h.nle, h.ncap, h.capb, h.ne1, h.ne2, h.ne3⟩
  have hl : (pre ++ [x]).length = pre.length + 1 := by simp
  have hl2 : (pre ++ [c]).length = pre.length + 1 := by simp
  have hb := h.buf
  rcases hb.2 with ⟨h0, _⟩ | ⟨g', cap', cur', hv, hbb, hg, hn, hc, hs, ht⟩
  · cases h0
  · cases hv
    rw [hl, Nat.mul_one] at ht
    refine ⟨by rw [byteCells_length, Nat.mul_one], .inr ⟨g, cv, _, by rw [hl, ← hl2], hbb, heap_set hg, by rw [hl2]; rw [hl] at hn; exact hn, hc, by simpa using hs, ?_⟩⟩
    rw [hl2, Nat.mul_one]
    have e : Lib.byteCells (pre ++ [c]) = Lib.byteCells pre ++ [.int .u8 (c.toNat : Int)] := by simp [Lib.byteCells]
    have e0 : Lib.byteCells (pre ++ [x]) = Lib.byteCells pre ++ [.int .u8 (x.toNat : Int)] := by simp [Lib.byteCells]
    have hcl : pre.length < cur'.toList.length := by rw [hl] at hn; simp; omega
    rw [e0] at ht
    have ht1 : cur'.toList.take pre.length = Lib.byteCells pre := by
      have := congrArg (List.take pre.length) ht
      rw [List.take_take, Nat.min_eq_left (Nat.le_succ _), List.take_append_of_le_length (by rw [byteCells_length]; exact Nat.le_refl _)] at this
      exact this.trans (List.take_of_length_le (by rw [byteCells_length]; exact Nat.le_refl _))
    rw [e, Array.toList_setIfInBounds, List.take_succ_eq_append_getElem (by simpa using hcl), List.take_set_of_le (Nat.le_refl _), ht1]
    simp

theorem Fr.setrow (hf : Fr gw gs0 bv0 w0 gs (.slice (some ⟨g, 0, none⟩) ln cv) w) (o : Nat) (v : Value) : Fr gw gs0 bv0 w0 gs (.slice (some ⟨g, 0, none⟩) ln cv) (w.setCell ⟨g, o, none⟩ v) := by
  obtain ⟨h1, h2, h3⟩ := hf
  refine ⟨⟨h1.os, h1.tape, h1.output, by simp [World.setCell]; exact h1.size, fun k hk a b c => (heap_set_ne ?_).trans (h1.block k hk a b c)⟩, h2, h3⟩
  rintro rfl
  rcases h3 k rfl with e | e
  · exact c e
  · omega
end

end Go.Proofs.YtpkfdbhpmhahaaaGreatDoor
