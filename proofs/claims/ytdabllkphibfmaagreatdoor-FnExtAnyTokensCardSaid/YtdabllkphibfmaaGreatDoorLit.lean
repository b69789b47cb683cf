/- bytes.Equal at two rows of bytes; the scanner one byte back; what a word is. -/
import Derived.Test.YtdabllkphibfmaaGreatDoorBack
import Derived.Lib.SlBytesConst
import Derived.Laws.IdiomStrings
namespace Go.Proofs.YtdabllkphibfmaaGreatDoor
open Go Go.RowKit

/-- bytes.Equal at two rows. -/
theorem bytesEqual (a b : Addr) (ca cb : Nat) (xs ys : List UInt8) (w : World) (ha : ∀ j (hj : j < xs.length), w.cell? (a.add j) = some (.int .u8 (xs[j].toNat : Int))) (hb : ∀ j (hj : j < ys.length), w.cell? (b.add j) = some (.int .u8 (ys[j].toNat : Int))) :
    Calls Tryz.prog 75 #[.slice (some a) xs.length ca, .slice (some b) ys.length cb] w fun e w' => e = .returned (.bool ((⟨xs.toArray⟩ : ByteArray).toList == (⟨ys.toArray⟩ : ByteArray).toList)) ∧ w = w' := by
  have h1 := run_convert_bytes_back (P := Tryz.prog) w 31 9 5 a ca xs Tryz.underlying31 Tryz.underlying5 Tryz.underlying9 ha
  have h2 := run_convert_bytes_back (P := Tryz.prog) w 31 9 5 b cb ys Tryz.underlying31 Tryz.underlying5 Tryz.underlying9 hb
  go_enter Tryz.func75, Tryz.ntmps75
  go_wp2
  go_ret
  exact ⟨by simp, rfl⟩

/-- One byte back. -/
theorem Sc.St.back {s : Sc} {g : Option Nat} {q : Nat} {w w' : World} (h : s.St g (q + 1) (q % 512 + 1) w) (hj : ∀ c0 c1 c2 c3, w.heap[s.j]? = some (.cells #[c0, c1, c2, c3] 91 (0, 0)) → w'.heap[s.j]? = some (.cells #[c0, c1, .int .i64 (q % 512 : Nat), c3] 91 (0, 0))) (ho : ∀ k, s.own g k → k ≠ s.j → w'.heap[k]? = w.heap[k]?) : s.St g q (q % 512) w' := by
  obtain ⟨hjt, hrt, hjr, hgx⟩ := h.apart
  obtain ⟨h1, h2, h3, h4, h5, h6⟩ := h
  have et := ho s.t (.inr (.inl rfl)) (by omega)
  have er := ho s.r (.inr (.inr (.inr (.inl rfl)))) (by omega)
  have e1 := ho 1 (.inl rfl) (by omega)
  refine ⟨h1.of_heap et, (World.cell?_of_block (a := ⟨1, 0, none⟩) e1).trans h2, h3, h4, h5, ?_⟩
  rcases h6 with ⟨_, hq, _⟩ | ⟨x, a, m, hg, hqa, hpm, hm0, hm1, ha, ham, hmm, hr, hjs, hb⟩ | ⟨x, hg, _, hp, _⟩
  · omega
  · refine .inr (.inl ⟨x, a, m, hg, by omega, by omega, hm0, hm1, ha, ham, hmm, hr.of_heap er, ?_, ?_⟩)
    · exact hj _ _ _ _ hjs
    · have ex := ho x (.inr (.inr (.inr (.inr hg.symm)))) (by
        intro e
        have := hgx x hg
        omega)
      obtain ⟨cur, c1, c2, c3⟩ := hb
      exact ⟨cur, ex.trans c1, c2, c3⟩
  · omega

/-- A word: true, false, null, and what ends it. -/
def wordEnd (k : Nat) (v : TV) (rest : List UInt8) : SubEnd :=
  match rest with
  | [] => .tok k v []
  | e :: r => if isTerm e then .tok k v (e :: r) else .err

def litRun (c : UInt8) (r : List UInt8) : SubEnd :=
  match r with
  | a :: b :: d :: rest =>
    if [c, a, b, d] = [116, 114, 117, 101] then wordEnd 10 (.bool true) rest
    else if [c, a, b, d] = [110, 117, 108, 108] then wordEnd 11 .nul rest
    else if [c, a, b, d] = [102, 97, 108, 115] then
      match rest with
      | 101 :: rest' => wordEnd 10 (.bool false) rest'
      | _ => .err
    else .err
  | _ => .err

end Go.Proofs.YtdabllkphibfmaaGreatDoor
