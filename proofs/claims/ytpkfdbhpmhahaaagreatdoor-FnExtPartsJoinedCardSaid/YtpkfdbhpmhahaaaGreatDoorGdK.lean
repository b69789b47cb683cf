/- DocDigits: a number's text. -/
import Derived.Test.YtpkfdbhpmhahaaaGreatDoorGa
namespace Go.Proofs.YtpkfdbhpmhahaaaGreatDoor
open Go Go.RowKit
set_option linter.unusedSimpArgs false
set_option linter.unusedVariables false

theorem back1 (W : World) (g : Nat) (a : UInt8) (h : W.heap[g]? = some (.cells #[.int .u8 (a.toNat : Int)] 5 (0, 0))) : (convert 23 9 (.slice (some ⟨g, 0, none⟩) 1 1)).run Tryz.prog W = .ok (.string ⟨#[a]⟩) W :=
  conv_own (acc := [a]) (base := 0) ⟨rfl, .inr ⟨g, 1, _, rfl, Nat.zero_le _, h, Nat.le_refl _, by decide, rfl, rfl⟩⟩

theorem u8_byte (c : Int) : ∃ a : UInt8, IntKind.u8.wrap c = (a.toNat : Int) := by
  refine ⟨UInt8.ofNat (IntKind.u8.wrap c).toNat, ?_⟩
  rw [IntKind.wrap_u8]
  simp
  omega

set_option maxRecDepth 100000 in
set_option maxHeartbeats 8000000 in
theorem docDigits : ∀ (n : Nat), n < 1000000000 → ∃ t : ByteArray, t.size ≤ n + 1 ∧ ∀ w : World, Calls Tryz.prog 36 #[.int .i64 (n : Nat)] w (Txt t w) := by
  intro n
  induction n using Nat.strongRecOn with
  | ind n ih =>
    intro hn
    by_cases h10 : n < 10
    · obtain ⟨a, ha⟩ := u8_byte (48 + (n : Int))
      have h10i : (n : Int) < 10 := by omega
      refine ⟨⟨#[a]⟩, by simp [ByteArray.size], fun w => ?_⟩
      have hcv := back1 (w.alloc (.cells #[.int .u8 (a.toNat : Int)] 5)) w.heap.size a (heap_alloc_new _ _)
      clear ih
      go_enter Tryz.func36, Tryz.ntmps36
      go_wp2
      go_ret
      exact ⟨rfl, (Below.refl _ _).alloc (Nat.le_refl _) _⟩
    · obtain ⟨a, ha⟩ := u8_byte (48 + (n : Int) % 10)
      have h10i : ¬ (n : Int) < 10 := by omega
      obtain ⟨q, hq⟩ : ∃ q, q = n / 10 := ⟨_, rfl⟩
      obtain ⟨tx, htx, ih0⟩ := ih q (by omega) (by omega)
      have IH := Lib.hid ih0
      clear ih0
      have hni : (n : Int) < 1000000000 := by omega
      have hr0 : 0 ≤ (n : Int) % 10 := by omega
      have hr1 : (n : Int) % 10 < 10 := by omega
      clear ih
      have hsa : (⟨#[a]⟩ : ByteArray).size = 1 := rfl
      refine ⟨tx ++ ⟨#[a]⟩, by rw [ByteArray.size_append, hsa]; omega, fun w => ?_⟩
      go_enter Tryz.func36, Tryz.ntmps36
      go_wp2
      refine wp_region_held_drew (S := fun _ => True) (by kernel_rfl) trivial (fun hHeld => ?_)
      refine takeH (i := 0) (some 10) (.int .i64 (n : Nat)) rfl rfl (by kernel_rfl) (by kernel_rfl) (by kernel_rfl) (fun _ _ _ h => h) (by rfl) (fun W hW => x_move rfl (by kernel_rfl)) trivial ?_
      simp only [Act.put, List.setIfInBounds_toArray, List.set_cons_zero, List.set_cons_succ]
      refine takeH (i := 1) (some 11) (.int .i64 (q : Nat)) rfl rfl (by kernel_rfl) (by kernel_rfl) (by kernel_rfl) (fun _ _ _ h => h) (by rfl) (fun W hW => x_quo10 rfl rfl (by kernel_rfl) hni hq) trivial ?_
      simp only [Act.put, List.setIfInBounds_toArray, List.set_cons_zero, List.set_cons_succ]
      refine takeH (i := 3) (some 13) (.int .i64 (n : Nat)) rfl rfl (by kernel_rfl) (by kernel_rfl) (by kernel_rfl) (fun _ _ _ h => h) (by rfl) (fun W hW => x_move rfl (by kernel_rfl)) trivial ?_
      simp only [Act.put, List.setIfInBounds_toArray, List.set_cons_zero, List.set_cons_succ]
      refine takeH (i := 4) (some 14) (.int .i64 ((n : Int) % 10)) rfl rfl (by kernel_rfl) (by kernel_rfl) (by kernel_rfl) (fun _ _ _ h => h) (by rfl) (fun W hW => x_rem10 rfl rfl (by kernel_rfl)) trivial ?_
      simp only [Act.put, List.setIfInBounds_toArray, List.set_cons_zero, List.set_cons_succ]
      refine takeH (i := 5) (some 15) (.int .i64 (48 + (n : Int) % 10)) rfl rfl (by kernel_rfl) (by kernel_rfl) (by kernel_rfl) (fun _ _ _ h => h) (by rfl) (fun W hW => x_add48 rfl rfl (by kernel_rfl) hr0 hr1) trivial ?_
      simp only [Act.put, List.setIfInBounds_toArray, List.set_cons_zero, List.set_cons_succ]
      refine takeH (i := 6) (some 16) (.int .u8 (a.toNat : Int)) rfl rfl (by kernel_rfl) (by kernel_rfl) (by kernel_rfl) (fun _ _ _ h => h) (by rfl) (fun W hW => (x_conv35 rfl (by kernel_rfl)).trans (by rw [ha])) trivial ?_
      simp only [Act.put, List.setIfInBounds_toArray, List.set_cons_zero, List.set_cons_succ]
      refine wpAnyH_ready (rs := [2, 7]) (by kernel_rfl) (by simp) ?_
      refine AllReadyH.cons rfl (fun K hK => ?_) (AllReadyH.cons rfl (fun K hK => ?_) AllReadyH.nil)
      · refine step_call rfl (some 12) rfl (x_call36 rfl (by kernel_rfl)) (R := fun v w2 => v = .string tx ∧ Below (w.drew).heap.size (w.drew) w2) ((IH.out _).mono (by rintro e2 w2 ⟨rfl, h2⟩; exact ⟨_, rfl, rfl, h2⟩)) ?_
        rintro v2 w2 ⟨rfl, hb2⟩
        refine hK.out _ _ trivial (fun hHeld => ?_)
        clear hK K
        simp only [Act.put, List.setIfInBounds_toArray, List.set_cons_zero, List.set_cons_succ]
        refine wpAnyH_ready (rs := [7]) (by kernel_rfl) (by simp) ?_
        refine AllReadyH.cons rfl (fun K hK => ?_) AllReadyH.nil
        refine step_value rfl (some 17) rfl (x_build1 (n := (a.toNat : Int)) rfl (by kernel_rfl)) ?_
        refine hK.out _ _ trivial (fun hHeld => ?_)
        clear hK K
        simp only [Act.put, List.setIfInBounds_toArray, List.set_cons_zero, List.set_cons_succ]
        refine wpAnyH_ready (rs := [8]) (by kernel_rfl) (by simp) ?_
        refine AllReadyH.cons rfl (fun K hK => ?_) AllReadyH.nil
        refine step_value rfl (some 18) rfl (x_conv rfl (by kernel_rfl) (back1 (w2.alloc (.cells #[.int .u8 (a.toNat : Int)] 5)) (w2.heap.size) a (heap_alloc_new w2 _))) ?_
        refine hK.out _ _ trivial (fun hHeld => ?_)
        clear hK K
        simp only [Act.put, List.setIfInBounds_toArray, List.set_cons_zero, List.set_cons_succ]
        refine takeH (i := 9) (some 19) (.string (tx ++ ⟨#[a]⟩)) rfl rfl (by kernel_rfl) (by kernel_rfl) (by kernel_rfl) (fun _ _ _ h => h) (by rfl) (fun W hW => x_cat rfl (by kernel_rfl) (by kernel_rfl) (by rw [hsa]; omega)) trivial ?_
        simp only [Act.put, List.setIfInBounds_toArray, List.set_cons_zero, List.set_cons_succ]
        refine takeH (i := 10) (some 2) (.string (tx ++ ⟨#[a]⟩)) rfl rfl (by kernel_rfl) (by kernel_rfl) (by kernel_rfl) (fun _ _ _ h => h) (by rfl) (fun W hW => x_assign rfl (by kernel_rfl)) trivial ?_
        simp only [Act.put, List.setIfInBounds_toArray, List.set_cons_zero, List.set_cons_succ]
        refine wpAnyH_done (by kernel_rfl) ?_ _
        go_wp2
        go_ret
        exact ⟨rfl, ((below_drew (Below.refl w.heap.size w)).trans hb2).alloc hb2.size _⟩
      · refine step_value rfl (some 17) rfl (x_build1 (n := (a.toNat : Int)) rfl (by kernel_rfl)) ?_
        refine hK.out _ _ trivial (fun hHeld => ?_)
        clear hK K
        simp only [Act.put, List.setIfInBounds_toArray, List.set_cons_zero, List.set_cons_succ]
        refine wpAnyH_ready (rs := [2, 8]) (by kernel_rfl) (by simp) ?_
        refine AllReadyH.cons rfl (fun K hK => ?_) (AllReadyH.cons rfl (fun K hK => ?_) AllReadyH.nil)
        · refine step_call rfl (some 12) rfl (x_call36 rfl (by kernel_rfl)) (R := fun v w2 => v = .string tx ∧ Below (w.drew.alloc (.cells #[.int .u8 (a.toNat : Int)] 5)).heap.size (w.drew.alloc (.cells #[.int .u8 (a.toNat : Int)] 5)) w2) ((IH.out _).mono (by rintro e2 w2 ⟨rfl, h2⟩; exact ⟨_, rfl, rfl, h2⟩)) ?_
          rintro v2 w2 ⟨rfl, hb2⟩
          refine hK.out _ _ trivial (fun hHeld => ?_)
          clear hK K
          simp only [Act.put, List.setIfInBounds_toArray, List.set_cons_zero, List.set_cons_succ]
          refine wpAnyH_ready (rs := [8]) (by kernel_rfl) (by simp) ?_
          refine AllReadyH.cons rfl (fun K hK => ?_) AllReadyH.nil
          refine step_value rfl (some 18) rfl (x_conv rfl (by kernel_rfl) (back1 (w2) (w.drew.heap.size) a ((hb2.block w.drew.heap.size (by simp)).trans (heap_alloc_new w.drew _)))) ?_
          refine hK.out _ _ trivial (fun hHeld => ?_)
          clear hK K
          simp only [Act.put, List.setIfInBounds_toArray, List.set_cons_zero, List.set_cons_succ]
          refine takeH (i := 9) (some 19) (.string (tx ++ ⟨#[a]⟩)) rfl rfl (by kernel_rfl) (by kernel_rfl) (by kernel_rfl) (fun _ _ _ h => h) (by rfl) (fun W hW => x_cat rfl (by kernel_rfl) (by kernel_rfl) (by rw [hsa]; omega)) trivial ?_
          simp only [Act.put, List.setIfInBounds_toArray, List.set_cons_zero, List.set_cons_succ]
          refine takeH (i := 10) (some 2) (.string (tx ++ ⟨#[a]⟩)) rfl rfl (by kernel_rfl) (by kernel_rfl) (by kernel_rfl) (fun _ _ _ h => h) (by rfl) (fun W hW => x_assign rfl (by kernel_rfl)) trivial ?_
          simp only [Act.put, List.setIfInBounds_toArray, List.set_cons_zero, List.set_cons_succ]
          refine wpAnyH_done (by kernel_rfl) ?_ _
          go_wp2
          go_ret
          exact ⟨rfl, ((below_drew (Below.refl w.heap.size w)).alloc (Nat.le_refl _) _).trans (hb2.mono (by simp))⟩
        · refine step_value rfl (some 18) rfl (x_conv rfl (by kernel_rfl) (back1 (w.drew.alloc (.cells #[.int .u8 (a.toNat : Int)] 5)) (w.drew.heap.size) a (heap_alloc_new w.drew _))) ?_
          refine hK.out _ _ trivial (fun hHeld => ?_)
          clear hK K
          simp only [Act.put, List.setIfInBounds_toArray, List.set_cons_zero, List.set_cons_succ]
          refine wpAnyH_ready (rs := [2]) (by kernel_rfl) (by simp) ?_
          refine AllReadyH.cons rfl (fun K hK => ?_) AllReadyH.nil
          refine step_call rfl (some 12) rfl (x_call36 rfl (by kernel_rfl)) (R := fun v w2 => v = .string tx ∧ Below (w.drew.alloc (.cells #[.int .u8 (a.toNat : Int)] 5)).heap.size (w.drew.alloc (.cells #[.int .u8 (a.toNat : Int)] 5)) w2) ((IH.out _).mono (by rintro e2 w2 ⟨rfl, h2⟩; exact ⟨_, rfl, rfl, h2⟩)) ?_
          rintro v2 w2 ⟨rfl, hb2⟩
          refine hK.out _ _ trivial (fun hHeld => ?_)
          clear hK K
          simp only [Act.put, List.setIfInBounds_toArray, List.set_cons_zero, List.set_cons_succ]
          refine takeH (i := 9) (some 19) (.string (tx ++ ⟨#[a]⟩)) rfl rfl (by kernel_rfl) (by kernel_rfl) (by kernel_rfl) (fun _ _ _ h => h) (by rfl) (fun W hW => x_cat rfl (by kernel_rfl) (by kernel_rfl) (by rw [hsa]; omega)) trivial ?_
          simp only [Act.put, List.setIfInBounds_toArray, List.set_cons_zero, List.set_cons_succ]
          refine takeH (i := 10) (some 2) (.string (tx ++ ⟨#[a]⟩)) rfl rfl (by kernel_rfl) (by kernel_rfl) (by kernel_rfl) (fun _ _ _ h => h) (by rfl) (fun W hW => x_assign rfl (by kernel_rfl)) trivial ?_
          simp only [Act.put, List.setIfInBounds_toArray, List.set_cons_zero, List.set_cons_succ]
          refine wpAnyH_done (by kernel_rfl) ?_ _
          go_wp2
          go_ret
          exact ⟨rfl, ((below_drew (Below.refl w.heap.size w)).alloc (Nat.le_refl _) _).trans (hb2.mono (by simp))⟩

end Go.Proofs.YtpkfdbhpmhahaaaGreatDoor
