/- What the rows' listed tables give a walk: safeSet, htmlSafeSet, utf8's two. -/
import Derived.Test.YtdabllkphibfmaaGreatDoorLaid
import Derived.Test.YtdabllkphibfmaaGreatDoorQuo
import Derived.Lib.LaidU8
namespace Go.Proofs.YtdabllkphibfmaaGreatDoor
open Go Go.ChangeShapes Go.WideShapes Go.ChangeAt Go.RowKit

theorem gHtml : Tryz.prog.globalNamed "pub-gunnysack/pub/bson.htmlSafeSet" = some 2 := by kernel_rfl
theorem gSafe : Tryz.prog.globalNamed "pub-gunnysack/pub/bson.safeSet" = some 3 := by kernel_rfl
theorem gHtmlType : (Tryz.prog.globals[2]?).map (·.type) = some 129 := by kernel_rfl
theorem gSafeType : (Tryz.prog.globals[3]?).map (·.type) = some 129 := by kernel_rfl
theorem cells4 : Tryz.prog.cellsOf 4 = 1 := by kernel_rfl

def boolData (f : Nat → Bool) : DataW Unit := .agg ((List.range 128).map fun i => .lit (.bool (f i)))
theorem html_data : Rows.laid_pub_gunnysack_pub_bson_htmlSafeSet = boolData htmlB := by kernel_rfl
theorem safe_data : Rows.laid_pub_gunnysack_pub_bson_safeSet = boolData safeB := by kernel_rfl

theorem bool_of_trod {enc : TypeId × Value → Unit} {W : World} {fuel : Nat} {cs : List Value} {b : Bool} {p : List MemPlace} (h : DataW.trod enc Tryz.prog W 0 (fun _ => true) false fuel 4 cs = some (.lit (.bool b), p)) : cs = [.bool b] := by
  obtain ⟨b', h1, h2⟩ := DataW.trod_bool Tryz.underlying4 h
  simp only [Prod.mk.injEq, DataW.lit.injEq, Lit.bool.injEq] at h2
  rw [h1, h2.1]

theorem bools_of_reads {W : World} {n : String} {g : Nat} {f : Nat → Bool} (hg : Tryz.prog.globalNamed n = some g) (ht : (Tryz.prog.globals[g]?).map (·.type) = some 129) (h : Lib.VarReads Tryz.prog W n (boolData f)) : ∀ b : Nat, b < 128 → W.cell? ⟨g, b, none⟩ = some (.bool (f b)) := by
  intro b hb
  obtain ⟨g', t, cs, fuel, p, hg', hty, hvar, hd⟩ := h
  obtain rfl := Option.some.inj (hg.symm.trans hg')
  obtain rfl := Option.some.inj (ht.symm.trans hty)
  obtain ⟨fuel', d, q, hdi, he⟩ := Lib.array_elem Tryz.underlying129 hd b hb
  simp only [List.getElem?_map, List.getElem?_range hb, Option.map_some, Option.some.injEq] at hdi
  subst hdi
  have hcs := bool_of_trod he
  rw [cells4, Nat.mul_one] at hcs
  have h0 := congrArg (·[0]?) hcs
  simp only [List.getElem?_take, List.getElem?_drop, Nat.add_zero, List.getElem?_cons_zero] at h0
  rw [if_pos (by decide)] at h0
  have := World.var?_cell hg' hvar b
  rw [this, ← Array.getElem?_toList, h0]

theorem sets_of_laid {W : World} {l : List (String × DataW Unit)} (h : laidMet Tryz.prog l W) (h1 : ("pub-gunnysack/pub/bson.htmlSafeSet", Rows.laid_pub_gunnysack_pub_bson_htmlSafeSet) ∈ l) (h2 : ("pub-gunnysack/pub/bson.safeSet", Rows.laid_pub_gunnysack_pub_bson_safeSet) ∈ l)
    (h3 : ("unicode/utf8.first", Rows.laid_unicode_utf8_first) ∈ l) (h4 : ("unicode/utf8.acceptRanges", Rows.laid_unicode_utf8_acceptRanges) ∈ l) : Sets W := by
  have r1 := Lib.laidMet.reads h h1
  have r2 := Lib.laidMet.reads h h2
  have r3 := Lib.laidMet.reads h h3
  have r4 := Lib.laidMet.reads h h4
  rw [html_data] at r1
  rw [safe_data] at r2
  have e3 : Rows.laid_unicode_utf8_first = Lib.firstData := by kernel_rfl
  have e4 : (Rows.laid_unicode_utf8_acceptRanges : DataW Unit) = Lib.acceptData := by kernel_rfl
  rw [e3] at r3
  rw [e4] at r4
  exact ⟨bools_of_reads gHtml gHtmlType r1, bools_of_reads gSafe gSafeType r2, utf8Tabs_of_reads (ρ := Tryz.lays197_ren) { Tryz.lays197 with } ⟨by kernel_rfl, by kernel_rfl, by kernel_rfl, by kernel_rfl, by kernel_rfl, by kernel_rfl, by kernel_rfl⟩ r3 r4⟩

end Go.Proofs.YtdabllkphibfmaaGreatDoor
