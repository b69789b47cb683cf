/- The guards: UTF-8, texts of at most 300 bytes. -/
import Derived.Test.YtpkfdbhpmhahaaaGreatDoorGa
import Derived.Test.YtpkfdbhpmhahaaaGreatDoorGdR
namespace Go.Proofs.YtpkfdbhpmhahaaaGreatDoor
open Go Go.RowKit
set_option linter.unusedSimpArgs false
set_option linter.unusedVariables false

set_option maxRecDepth 100000 in
/-- ExtUTF8 answers. -/
theorem extUTF8 (s : ByteArray) (hl : s.size ≤ 1000000) (w : World) : Calls Tryz.prog 27 #[.string s] w (Ans (fun _ => True) w) := by
  go_enter Tryz.func27, Tryz.ntmps27
  go_wp2
  go_loopg [3] s.size (fun m v wx => Aside (∃ i : Nat, m = s.size - i ∧ i ≤ s.size ∧ v = .int .i64 (i : Nat)) ∧ wx = w)
  case atStart => exact ⟨⟨0, rfl, by omega, rfl⟩, rfl⟩
  case round =>
    obtain ⟨hr, rfl⟩ := hrel
    obtain ⟨i, rfl, hi, rfl⟩ := hr.out
    clear hr
    by_cases hlt : i < s.size
    · have hsz : (s.extract i s.size).size = s.size - i := by simp [ByteArray.size_extract]
      go_upto_if 18 with (first | (go_at_call 28; refine (rune (s.extract i s.size) (by omega) (by omega) _).mono ?_; rintro e2 w2 ⟨n, c, hn, rfl, rfl⟩; have HN := Lib.hid hn; clear hn))
      rcases HN.out with rfl | ⟨k, rfl, h1, h2, _⟩
      · go_wp2
        go_ret
        exact ⟨_, rfl, trivial, rfl⟩
      · have k0 : ((k : Int) == 0) = false := beq_eq_false_iff_ne.2 (by omega)
        go_wp2
        go_roundg (s.size - (i + k))
        case measure => omega
        case rel => exact ⟨⟨i + k, rfl, by omega, by simp⟩, rfl⟩
    · go_wp2
      go_ret
      exact ⟨_, rfl, trivial, rfl⟩

def Le300 (s : ByteArray) (r : Bool) : Prop := r = true → s.size ≤ 300

/-- extText answers; if it says yes, the text has at most 300 bytes. -/
theorem extText (s : ByteArray) (hl : s.size ≤ 9223372036854775807) (w : World) : Calls Tryz.prog 14 #[.string s] w (Ans (Le300 s) w) := by
  by_cases h3 : s.size ≤ 300
  · have h3i : (s.size : Int) ≤ 300 := by omega
    go_enter Tryz.func14, Tryz.ntmps14
    go_wp2_with (first | (go_at_call 27; refine (extUTF8 s (by omega) _).mono ?_; rintro e2 w2 ⟨r, rfl, _, rfl⟩))
    go_ret
    exact ⟨_, rfl, fun _ => h3, rfl⟩
  · have h3i : ¬ (s.size : Int) ≤ 300 := by omega
    go_enter Tryz.func14, Tryz.ntmps14
    go_wp2
    go_ret
    exact ⟨_, rfl, (fun h => absurd h (by decide) : Le300 s false), rfl⟩

end Go.Proofs.YtpkfdbhpmhahaaaGreatDoor
