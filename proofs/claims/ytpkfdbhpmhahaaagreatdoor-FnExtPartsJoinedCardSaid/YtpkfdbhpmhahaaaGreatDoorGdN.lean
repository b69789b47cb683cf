/- docRight: it answers; if it says yes, every kind is known. -/
import Derived.Test.YtpkfdbhpmhahaaaGreatDoorTre
import Derived.Test.YtpkfdbhpmhahaaaGreatDoorGdK
namespace Go.Proofs.YtpkfdbhpmhahaaaGreatDoor
open Go Go.RowKit
set_option linter.unusedSimpArgs false
set_option linter.unusedVariables false

theorem slice_or {v : Value} {a : Option Addr} {n c : Nat} (h : v = .slice a n c ∨ v = .slice none 0 0) : ∃ a' n' c', v = .slice a' n' c' := by
  rcases h with rfl | rfl
  · exact ⟨_, _, _, rfl⟩
  · exact ⟨_, _, _, rfl⟩

theorem docPlain_at {s : ByteArray} (hl : s.size ≤ 9223372036854775807) {r : Bool} (h : plainB s 0 = r) (w : World) : Calls Tryz.prog 35 #[.string s] w (fun e w' => e = .returned (.bool r) ∧ w = w') := by
  subst h
  exact docPlainB s hl w

theorem kids_more {ks : List (ByteArray × T)} {i : Nat} (h : ∀ e ∈ ks.take i, KnownT e.2) (hi : i < ks.length) (hk : KnownT ks[i].2) : ∀ e ∈ ks.take (i + 1), KnownT e.2 := by
  intro e he
  rw [List.take_succ_eq_append_getElem hi] at he
  rcases List.mem_append.1 he with h1 | h1
  · exact h e h1
  · rw [List.mem_singleton.1 h1]; exact hk

set_option maxRecDepth 100000 in
set_option maxHeartbeats 4000000 in
theorem docRight (x : T) : ∀ (L : Nat) (v : Value) (deep : Int) (w : World), VAt w L x v → x.nodes ≤ 300 → L ≤ w.heap.size → 0 ≤ deep → deep ≤ 1000 → Calls Tryz.prog 20 #[v, .int .i64 deep] w (AnsB (fun r => r = true → KnownT x) w) := by
  induction x using T.ind with
  | h K t m n b h bs ks ih =>
  intro L v deep w hv hno hL hd0 hd1
  have hnk : nodesL ks < 300 := by simp only [T.nodes] at hno; omega
  have hlk : ks.length < 300 := Nat.lt_of_le_of_lt (nodesL_length ks) hnk
  have HNK := Lib.hid hnk
  have HLK := Lib.hid hlk
  clear hno hnk hlk
  have HV := Lib.hid hv
  cases hv with
  | mk _ _ _ _ _ _ _ _ ba ka bn bc kn kc g o kb ko C hK hn hb hh ht hm hbn hbl hbc hbs hba hkn hkl hkc hka hks hkt hsub =>
  have HX := Lib.hid (And.intro hbs (And.intro hba (And.intro hka (And.intro hks (And.intro hkt hsub)))))
  have HN := Lib.hid (And.intro hbn hkn)
  have IH := Lib.hid ih
  clear hbs hba hka hks hkt hsub hbn hkn ih hK hn hb hh
  have hA := heap_alloc_new w (.cells (vcells K t m n b h (.slice ba bn bc) (.slice ka kn kc)) 26)
  have HB := Lib.hid ((Below.refl w.heap.size w).alloc (Nat.le_refl _) (.cells (vcells K t m n b h (.slice ba bn bc) (.slice ka kn kc)) 26))
  have hsz : w.heap.size < (w.alloc (.cells (vcells K t m n b h (.slice ba bn bc) (.slice ka kn kc)) 26)).heap.size := by simp
  go_enter Tryz.func20, Tryz.ntmps20
  go_upto_region 1 with fail
  generalize hW : w.alloc (.cells (vcells K t m n b h (.slice ba bn bc) (.slice ka kn kc)) 26) = W
  rw [hW] at HB hA hsz
  clear hW
  have HA := Lib.hid hA
  obtain ⟨a0, a1, a2, a3, a4, a5, a6, a7, af⟩ := cells8 hA
  clear hA
  by_cases hz : deep = 0
  · subst hz
    go_wp2_with (first | (go_at_call 33; refine (docKnown K _).mono ?_; rintro e2 w2 ⟨r, rfl, hr, rfl⟩; have HR := Lib.hid hr; clear hr; cases r))
    all_goals (go_ret; exact ⟨_, rfl, fun h => absurd h (by decide), HB.out⟩)
  have ez : (deep == 0) = false := beq_eq_false_iff_ne.2 hz
  go_upto_if 15 with (first | (go_at_call 33; refine (docKnown K _).mono ?_; rintro e2 w2 ⟨r, rfl, hr, rfl⟩; have HR := Lib.hid hr; clear hr; cases r))
  · skip
    go_wp2
    go_ret
    exact ⟨_, rfl, fun h => absurd h (by decide), HB.out⟩
  · have hKn : Known K := HR.out.1 trivial
    go_upto_region 4 with (first | (refine wpList_load_row rfl 26 (.tmp 2) rfl _ rfl 26 (vcells K t m n b h (.slice ba bn bc) (.slice ka kn kc)) (0, 0) _ HA.out Tryz.underlying26 rfl info26 ?_) | (go_at_call 34; refine (docBare K hKn t m n b h ba ka bn bc kn kc _).mono ?_; rintro e3 w3 ⟨K', t', m', n', b', h', bv', kv', rfl,  hbv, hkv, hb3⟩; obtain ⟨ba', bn', bc', rfl⟩ := slice_or hbv; obtain ⟨ka', kn', kc', rfl⟩ := slice_or hkv; clear hbv hkv; have HB3 := Lib.hid hb3; have hA3 := (hb3.block w.heap.size hsz).trans HA.out; clear hb3 a0 a1 a2 a3 a4 a5 a6 a7 af; have HA3 := Lib.hid hA3; clear hA3) | (refine wpList_store_new rfl 26 (.tmp 5) (.tmp 17) rfl rfl _ _ (vcells K' t' m' n' b' h' (.slice ba' bn' bc') (.slice ka' kn' kc')) _ rfl rfl info26 rfl (vcells_one _ _ _ _ _ _ _ _ _ _ _ _) ?_))
    have HA4 := Lib.hid ((Below.heap_alloc w3 (.cells (vcells K' t' m' n' b' h' (.slice ba' bn' bc') (.slice ka' kn' kc')) 26) _ (lt_of_heap HA3.out)).trans HA3.out)
    have hN := heap_alloc_new w3 (.cells (vcells K' t' m' n' b' h' (.slice ba' bn' bc') (.slice ka' kn' kc')) 26)
    have HB4 := Lib.hid ((HB.out.trans (HB3.out.mono (Nat.le_of_lt hsz))).alloc (Nat.le_trans (Nat.le_of_lt hsz) HB3.out.size) (.cells (vcells K' t' m' n' b' h' (.slice ba' bn' bc') (.slice ka' kn' kc')) 26))
    generalize hW : w3.alloc (.cells (vcells K' t' m' n' b' h' (.slice ba' bn' bc') (.slice ka' kn' kc')) 26) = W4
    rw [hW] at HA4 hN HB4
    clear hW
    obtain ⟨n0, n1, n2, n3, n4, n5, n6, n7, nf⟩ := cells8 hN
    clear hN
    go_cut [52] (fun v wx => Aside (∃ r : Bool, v = .bool r) ∧ W4 = wx)
    case first =>
      go_wp2
      all_goals (go_meet; exact ⟨⟨_, rfl⟩, rfl⟩)
    case rest =>
      obtain ⟨hb, rfl⟩ := hcut
      obtain ⟨bb, rfl⟩ := hb.out
      clear hb n0 n1 n2 n3 n4 n5 n6 n7 nf
      obtain ⟨a0, a1, a2, a3, a4, a5, a6, a7, af⟩ := cells8 HA4.out
      cases bb with
      | true =>
        go_wp2
        go_ret
        exact ⟨_, rfl, fun h => absurd h (by decide), HB4.out⟩
      | false =>
        by_cases k5 : K = 5
        · skip
          subst k5
          go_wp2
          all_goals (go_ret; exact ⟨_, rfl, fun h => KnownT.leaf hKn (by decide) (by decide) (by decide), HB4.out⟩)
        by_cases k7 : K = 7
        · skip
          subst k7
          go_wp2
          all_goals (go_ret; exact ⟨_, rfl, fun h => KnownT.leaf hKn (by decide) (by decide) (by decide), HB4.out⟩)
        by_cases k12 : K = 12
        · skip
          subst k12
          go_wp2
          all_goals (go_ret; exact ⟨_, rfl, fun h => KnownT.leaf hKn (by decide) (by decide) (by decide), HB4.out⟩)
        by_cases k8 : K = 8
        · skip
          subst k8
          go_wp2
          all_goals (go_ret; exact ⟨_, rfl, fun h => KnownT.leaf hKn (by decide) (by decide) (by decide), HB4.out⟩)
        by_cases k16 : K = 16
        · skip
          subst k16
          go_wp2
          all_goals (go_ret; exact ⟨_, rfl, fun h => KnownT.leaf hKn (by decide) (by decide) (by decide), HB4.out⟩)
        by_cases k11 : K = 11
        · skip
          subst k11
          go_wp2_with (first | (go_at_call 35; refine (docPlain _ (by omega) _).mono ?_; rintro e5 w5 ⟨r, rfl, _, rfl⟩; cases r))
          all_goals (go_ret; exact ⟨_, rfl, fun h => KnownT.leaf hKn (by decide) (by decide) (by decide), HB4.out⟩)
        have e5 : (K == 5) = false := beq_eq_false_iff_ne.2 k5
        have e7 : (K == 7) = false := beq_eq_false_iff_ne.2 k7
        have e8 : (K == 8) = false := beq_eq_false_iff_ne.2 k8
        have e11 : (K == 11) = false := beq_eq_false_iff_ne.2 k11
        have e12 : (K == 12) = false := beq_eq_false_iff_ne.2 k12
        have e16 : (K == 16) = false := beq_eq_false_iff_ne.2 k16
        clear k5 k7 k8 k11 k12 k16
        go_wp2
        clear a0 a1 a2 a3 a4 a5 a6 a7 af e5 e7 e8 e11 e12 e16
        go_loopg [6] kn (fun m v wx => Aside (∃ i : Nat, m = kn - i ∧ i ≤ kn ∧ v = .int .i64 (i : Nat) ∧ (∀ e ∈ ks.take i, KnownT e.2) ∧ Below W4.heap.size W4 wx))
        case atStart => exact ⟨0, rfl, by omega, rfl, by simp, Below.refl _ _⟩
        case round =>
          obtain ⟨i, rfl, hi, rfl, hks, hb5⟩ := hrel.out
          clear hrel
          have HKS := Lib.hid hks
          have HB5 := Lib.hid hb5
          have hA5 := (hb5.block w.heap.size (lt_of_heap HA4.out)).trans HA4.out
          have HA5 := Lib.hid hA5
          obtain ⟨a0, a1, a2, a3, a4, a5, a6, a7, af⟩ := cells8 hA5
          clear hks hb5 hA5
          by_cases hlt : i < kn
          · have hik : i < ks.length := by have := HN.out.2; omega
            have hkne : ks ≠ [] := by rintro rfl; simp at hik
            obtain ⟨hka, hkb⟩ := HX.out.2.2.1 hkne
            have hra := HX.out.2.2.2.1 i hik
            have hnm := HX.out.2.2.2.2.1 i hik
            have hva := HX.out.2.2.2.2.2 i hik
            obtain ⟨nm, hn0⟩ : ∃ nm, nm = ks[i].1 := ⟨_, rfl⟩
            obtain ⟨tr, ht0⟩ : ∃ tr, tr = ks[i].2 := ⟨_, rfl⟩
            obtain ⟨cv, hc0⟩ : ∃ cv, cv = C i := ⟨_, rfl⟩
            rw [← hn0, ← hc0] at hra
            rw [← hn0] at hnm
            rw [← ht0, ← hc0] at hva
            subst hka
            have HE := Lib.hid (And.intro hn0 ht0)
            have HMEM := Lib.hid (List.getElem_mem hik)
            obtain ⟨hc8, hc1⟩ := hva.size
            have HVA := Lib.hid hva
            have HC8 := Lib.hid hc8
            have HC1 := Lib.hid hc1
            have HRA := Lib.hid (rangeAt_kept hra ((HB5.out.block kb (by have := HB4.out.size; omega)).trans (HB4.out.block kb (by omega))))
            clear hn0 ht0 hc0 hra hva hc8 hc1 hkne
            go_upto_region 22 with (first | ((with_reducible refine wpList_at (some 113) ?_); refine wpList_load_mid rfl 33 (.tmp 112) rfl kb (ko + i * 9) rfl (.string nm :: cv.toList) _ HRA.out Tryz.underlying33 rfl (kid_info HC8.out) ?_) | ((with_reducible refine wpList_at none ?_); refine wpList_store_new rfl 33 (.tmp 7) (.tmp 113) rfl rfl _ _ (Value.string nm :: cv.toList).toArray _ rfl rfl (kid_info2 HC8.out) (kid_size HC8.out) (kid_one HC1.out) ?_))
            have HK6 := Lib.hid (heap_alloc_new wr (.cells (Value.string nm :: cv.toList).toArray 33))
            have HB6 := Lib.hid ((Below.refl wr.heap.size wr).alloc (Nat.le_refl _) (.cells (Value.string nm :: cv.toList).toArray 33))
            have hsz6 : wr.heap.size < (wr.alloc (.cells (Value.string nm :: cv.toList).toArray 33)).heap.size := by simp
            generalize hW6 : wr.alloc (.cells (Value.string nm :: cv.toList).toArray 33) = W6
            rw [hW6] at HK6 HB6 hsz6
            clear hW6 a0 a1 a2 a3 a4 a5 a6 a7 af
            have hwr : w.heap.size < wr.heap.size := lt_of_heap HA5.out
            have ck : W6.cell? ⟨w.heap.size, 0, none⟩ = some (.int .i64 K) := (cells8 ((HB6.out.block _ hwr).trans HA5.out)).1
            have cn : W6.cell? ⟨wr.heap.size, 0, none⟩ = some (.string nm) := kid_name HK6.out
            have cr : W6.rangeAt wr.heap.size 1 cv.toList := kid_range HK6.out
            have hu26 := Tryz.underlying26
            have hi26 : (Tryz.prog.info? 26).map (·.size) = some cv.toList.length := by rw [info26]; simp [HC8.out]
            have hll : cv.toList.length = 8 := by simp [HC8.out]
            have hd2 : 0 ≤ deep - 1 := by omega
            have hd3 : deep - 1 ≤ 1000 := by omega
            have hi9 : i < 300 := by have := HLK.out; omega
            have HV6 : Hid (VAt W6 L tr (.agg cv)) := Lib.hid (HVA.out.kept (Nat.le_refl _) fun q hq => (HB6.out.block q (by have := HB4.out.size; have := HB5.out.size; omega)).trans ((HB5.out.block q (by have := HB4.out.size; omega)).trans (HB4.out.block q (by omega))))
            have RC : ∀ W : World, VAt W L tr (.agg cv) → L ≤ W.heap.size → Calls Tryz.prog 20 #[.agg cv, .int .i64 (deep - 1)] W (AnsB (fun r => r = true → KnownT tr) W) := by
              intro W h1 h2
              have hno : ks[i].2.nodes ≤ 300 := by have := nodesL_mem ks _ HMEM.out; have := HNK.out; omega
              rw [HE.out.2] at h1 ⊢
              exact IH.out _ HMEM.out L _ _ W h1 hno h2 hd2 hd3
            have hwd : IntKind.i64.wrap (deep - 1) = deep - 1 := by rw [IntKind.wrap_i64]; omega
            have HRC := Lib.hid RC
            have HVD : Hid (VAt W6.drew L tr (.agg cv)) := Lib.hid (VAt.kept (w := W6) (w' := W6.drew) (Nat.le_refl _) (fun q hq => rfl) HV6.out)
            have HSD : Hid (L ≤ W6.drew.heap.size) := Lib.hid (by show L ≤ W6.heap.size; have := HB4.out.size; have := HB5.out.size; have := HB6.out.size; omega)
            clear RC
            cases hp : plainB nm 0 with
            | false =>
              have HP := Lib.hid (docPlain_at hnm hp)
              clear hp
              refine wp_region_noPanic ?_
              refine wp_region_held_drew (S := fun w' => w'.cell? ⟨w.heap.size, 0, none⟩ = some (.int .i64 K) ∧ w'.cell? ⟨wr.heap.size, 0, none⟩ = some (.string nm) ∧ w'.rangeAt wr.heap.size 1 cv.toList) (by kernel_rfl) (⟨ck, cn, cr⟩) (fun hHeld => ?_)
              refine takeH (i := 0) (some 114) ?va1 rfl rfl (by kernel_rfl) (by kernel_rfl) (by kernel_rfl) (fun _ _ _ h => h) (by rfl) ?ya2 (by assumption) ?ra3
              case ya2 => intro W hSw; obtain ⟨s1, s2, s3⟩ := hSw; go_simp; all_goals with_reducible rfl
              try simp only [Act.put, List.setIfInBounds_toArray, List.set_cons_zero, List.set_cons_succ]
              refine takeH (i := 1) (some 115) ?va4 rfl rfl (by kernel_rfl) (by kernel_rfl) (by kernel_rfl) (fun _ _ _ h => h) (by rfl) ?ya5 (by assumption) ?ra6
              case ya5 => intro W hSw; obtain ⟨s1, s2, s3⟩ := hSw; go_simp; all_goals with_reducible rfl
              try simp only [Act.put, List.setIfInBounds_toArray, List.set_cons_zero, List.set_cons_succ]
              refine wpAnyH_ready (rs := [2]) (by kernel_rfl) (by simp) ?_
              refine (AllReadyH.cons rfl (fun K hK => ?_) AllReadyH.nil)
              go_simp
              refine (HP.out _).mono ?_
              rintro e5 w5 ⟨rfl, rfl⟩
              refine hK.out _ _ (hHeld) (fun hHeld => ?_)
              clear hK K
              try simp only [Act.put, List.setIfInBounds_toArray, List.set_cons_zero, List.set_cons_succ]
              refine takeH (i := 3) (some 117) ?va7 rfl rfl (by kernel_rfl) (by kernel_rfl) (by kernel_rfl) (fun _ _ _ h => h) (by rfl) ?ya8 (by assumption) ?ra9
              case ya8 => intro W hSw; obtain ⟨s1, s2, s3⟩ := hSw; go_simp; all_goals with_reducible rfl
              try simp only [Act.put, List.setIfInBounds_toArray, List.set_cons_zero, List.set_cons_succ]
              refine takeH (i := 4) (some 118) ?va10 rfl rfl (by kernel_rfl) (by kernel_rfl) (by kernel_rfl) (fun _ _ _ h => h) (by rfl) ?ya11 (by assumption) ?ra12
              case ya11 => intro W hSw; obtain ⟨s1, s2, s3⟩ := hSw; go_simp; all_goals with_reducible rfl
              try simp only [Act.put, List.setIfInBounds_toArray, List.set_cons_zero, List.set_cons_succ]
              refine takeU (i := 5) (some 119) rfl rfl (by kernel_rfl) (by kernel_rfl) (by kernel_rfl) (fun _ _ _ h => h) (by rfl) (by assumption) ?_
              try simp only [Act.put, List.setIfInBounds_toArray, List.set_cons_zero, List.set_cons_succ]
              refine takeU (i := 6) (some 120) rfl rfl (by kernel_rfl) (by kernel_rfl) (by kernel_rfl) (fun _ _ _ h => h) (by rfl) (by assumption) ?_
              try simp only [Act.put, List.setIfInBounds_toArray, List.set_cons_zero, List.set_cons_succ]
              refine takeU (i := 7) (some 121) rfl rfl (by kernel_rfl) (by kernel_rfl) (by kernel_rfl) (fun _ _ _ h => h) (by rfl) (by assumption) ?_
              try simp only [Act.put, List.setIfInBounds_toArray, List.set_cons_zero, List.set_cons_succ]
              refine takeU (i := 8) (some 122) rfl rfl (by kernel_rfl) (by kernel_rfl) (by kernel_rfl) (fun _ _ _ h => h) (by rfl) (by assumption) ?_
              try simp only [Act.put, List.setIfInBounds_toArray, List.set_cons_zero, List.set_cons_succ]
              refine takeU (i := 9) (some 123) rfl rfl (by kernel_rfl) (by kernel_rfl) (by kernel_rfl) (fun _ _ _ h => h) (by rfl) (by assumption) ?_
              try simp only [Act.put, List.setIfInBounds_toArray, List.set_cons_zero, List.set_cons_succ]
              refine takeU (i := 10) (some 124) rfl rfl (by kernel_rfl) (by kernel_rfl) (by kernel_rfl) (fun _ _ _ h => h) (by rfl) (by assumption) ?_
              try simp only [Act.put, List.setIfInBounds_toArray, List.set_cons_zero, List.set_cons_succ]
              refine takeU (i := 11) (some 125) rfl rfl (by kernel_rfl) (by kernel_rfl) (by kernel_rfl) (fun _ _ _ h => h) (by rfl) (by assumption) ?_
              try simp only [Act.put, List.setIfInBounds_toArray, List.set_cons_zero, List.set_cons_succ]
              refine takeU (i := 12) (some 126) rfl rfl (by kernel_rfl) (by kernel_rfl) (by kernel_rfl) (fun _ _ _ h => h) (by rfl) (by assumption) ?_
              try simp only [Act.put, List.setIfInBounds_toArray, List.set_cons_zero, List.set_cons_succ]
              refine takeU (i := 13) (some 127) rfl rfl (by kernel_rfl) (by kernel_rfl) (by kernel_rfl) (fun _ _ _ h => h) (by rfl) (by assumption) ?_
              try simp only [Act.put, List.setIfInBounds_toArray, List.set_cons_zero, List.set_cons_succ]
              refine takeU (i := 14) (some 128) rfl rfl (by kernel_rfl) (by kernel_rfl) (by kernel_rfl) (fun _ _ _ h => h) (by rfl) (by assumption) ?_
              try simp only [Act.put, List.setIfInBounds_toArray, List.set_cons_zero, List.set_cons_succ]
              refine takeH (i := 15) (some 129) ?va13 rfl rfl (by kernel_rfl) (by kernel_rfl) (by kernel_rfl) (fun _ _ _ h => h) (by rfl) ?ya14 (by assumption) ?ra15
              case ya14 => intro W hSw; obtain ⟨s1, s2, s3⟩ := hSw; go_simp; all_goals with_reducible rfl
              try simp only [Act.put, List.setIfInBounds_toArray, List.set_cons_zero, List.set_cons_succ]
              refine takeH (i := 16) (some 130) ?va16 rfl rfl (by kernel_rfl) (by kernel_rfl) (by kernel_rfl) (fun _ _ _ h => h) (by rfl) ?ya17 (by assumption) ?ra18
              case ya17 => intro W hSw; obtain ⟨s1, s2, s3⟩ := hSw; go_simp; all_goals with_reducible rfl
              try simp only [Act.put, List.setIfInBounds_toArray, List.set_cons_zero, List.set_cons_succ]
              refine takeU (i := 17) (some 131) rfl rfl (by kernel_rfl) (by kernel_rfl) (by kernel_rfl) (fun _ _ _ h => h) (by rfl) (by assumption) ?_
              try simp only [Act.put, List.setIfInBounds_toArray, List.set_cons_zero, List.set_cons_succ]
              refine takeU (i := 18) (some 132) rfl rfl (by kernel_rfl) (by kernel_rfl) (by kernel_rfl) (fun _ _ _ h => h) (by rfl) (by assumption) ?_
              try simp only [Act.put, List.setIfInBounds_toArray, List.set_cons_zero, List.set_cons_succ]
              refine takeU (i := 19) (some 133) rfl rfl (by kernel_rfl) (by kernel_rfl) (by kernel_rfl) (fun _ _ _ h => h) (by rfl) (by assumption) ?_
              try simp only [Act.put, List.setIfInBounds_toArray, List.set_cons_zero, List.set_cons_succ]
              refine takeU (i := 20) (some 134) rfl rfl (by kernel_rfl) (by kernel_rfl) (by kernel_rfl) (fun _ _ _ h => h) (by rfl) (by assumption) ?_
              try simp only [Act.put, List.setIfInBounds_toArray, List.set_cons_zero, List.set_cons_succ]
              refine takeU (i := 21) (some 135) rfl rfl (by kernel_rfl) (by kernel_rfl) (by kernel_rfl) (fun _ _ _ h => h) (by rfl) (by assumption) ?_
              try simp only [Act.put, List.setIfInBounds_toArray, List.set_cons_zero, List.set_cons_succ]
              refine takeU (i := 22) (some 136) rfl rfl (by kernel_rfl) (by kernel_rfl) (by kernel_rfl) (fun _ _ _ h => h) (by rfl) (by assumption) ?_
              try simp only [Act.put, List.setIfInBounds_toArray, List.set_cons_zero, List.set_cons_succ]
              refine takeH (i := 23) (some 137) ?va19 rfl rfl (by kernel_rfl) (by kernel_rfl) (by kernel_rfl) (fun _ _ _ h => h) (by rfl) ?ya20 (by assumption) ?ra21
              case ya20 => intro W hSw; obtain ⟨s1, s2, s3⟩ := hSw; go_simp; all_goals with_reducible rfl
              try simp only [Act.put, List.setIfInBounds_toArray, List.set_cons_zero, List.set_cons_succ]
              refine wpAnyH_done (by kernel_rfl) ?_ _
              refine NoPanic.normal ?_
              go_wp2
              go_ret
              exact ⟨_, rfl, fun h => absurd h (by decide), (HB4.out.trans (HB5.out.mono (by have := HB4.out.size; omega))).trans (below_drew (HB6.out.mono (by omega)))⟩
            | true =>
              have HP := Lib.hid (docPlain_at hnm hp)
              clear hp
              by_cases k4 : K = 4
              · have e4 : (K == 4) = true := by simp [k4]
                clear k4
                obtain ⟨tx, htx, hdg⟩ := docDigits i (by omega)
                have HDG := Lib.hid hdg
                clear hdg
                by_cases hnx : nm ≠ tx
                · skip
                  refine wp_region_noPanic ?_
                  refine wp_region_held_drew (S := fun w' => w'.cell? ⟨w.heap.size, 0, none⟩ = some (.int .i64 K) ∧ w'.cell? ⟨wr.heap.size, 0, none⟩ = some (.string nm) ∧ w'.rangeAt wr.heap.size 1 cv.toList) (by kernel_rfl) (⟨ck, cn, cr⟩) (fun hHeld => ?_)
                  refine takeH (i := 0) (some 114) ?vc1 rfl rfl (by kernel_rfl) (by kernel_rfl) (by kernel_rfl) (fun _ _ _ h => h) (by rfl) ?yc2 (by assumption) ?rc3
                  case yc2 => intro W hSw; obtain ⟨s1, s2, s3⟩ := hSw; go_simp; all_goals with_reducible rfl
                  try simp only [Act.put, List.setIfInBounds_toArray, List.set_cons_zero, List.set_cons_succ]
                  refine takeH (i := 1) (some 115) ?vc4 rfl rfl (by kernel_rfl) (by kernel_rfl) (by kernel_rfl) (fun _ _ _ h => h) (by rfl) ?yc5 (by assumption) ?rc6
                  case yc5 => intro W hSw; obtain ⟨s1, s2, s3⟩ := hSw; go_simp; all_goals with_reducible rfl
                  try simp only [Act.put, List.setIfInBounds_toArray, List.set_cons_zero, List.set_cons_succ]
                  refine wpAnyH_ready (rs := [2]) (by kernel_rfl) (by simp) ?_
                  refine (AllReadyH.cons rfl (fun K hK => ?_) AllReadyH.nil)
                  go_simp
                  refine (HP.out _).mono ?_
                  rintro e5 w5 ⟨rfl, rfl⟩
                  refine hK.out _ _ (hHeld) (fun hHeld => ?_)
                  clear hK K
                  try simp only [Act.put, List.setIfInBounds_toArray, List.set_cons_zero, List.set_cons_succ]
                  refine takeH (i := 3) (some 117) ?vc7 rfl rfl (by kernel_rfl) (by kernel_rfl) (by kernel_rfl) (fun _ _ _ h => h) (by rfl) ?yc8 (by assumption) ?rc9
                  case yc8 => intro W hSw; obtain ⟨s1, s2, s3⟩ := hSw; go_simp; all_goals with_reducible rfl
                  try simp only [Act.put, List.setIfInBounds_toArray, List.set_cons_zero, List.set_cons_succ]
                  refine takeH (i := 4) (some 118) ?vc10 rfl rfl (by kernel_rfl) (by kernel_rfl) (by kernel_rfl) (fun _ _ _ h => h) (by rfl) ?yc11 (by assumption) ?rc12
                  case yc11 => intro W hSw; obtain ⟨s1, s2, s3⟩ := hSw; go_simp; all_goals with_reducible rfl
                  try simp only [Act.put, List.setIfInBounds_toArray, List.set_cons_zero, List.set_cons_succ]
                  refine takeH (i := 5) (some 119) ?vc13 rfl rfl (by kernel_rfl) (by kernel_rfl) (by kernel_rfl) (fun _ _ _ h => h) (by rfl) ?yc14 (by assumption) ?rc15
                  case yc14 => intro W hSw; obtain ⟨s1, s2, s3⟩ := hSw; go_simp; all_goals with_reducible rfl
                  try simp only [Act.put, List.setIfInBounds_toArray, List.set_cons_zero, List.set_cons_succ]
                  refine takeH (i := 6) (some 120) ?vc16 rfl rfl (by kernel_rfl) (by kernel_rfl) (by kernel_rfl) (fun _ _ _ h => h) (by rfl) ?yc17 (by assumption) ?rc18
                  case yc17 => intro W hSw; obtain ⟨s1, s2, s3⟩ := hSw; go_simp; all_goals with_reducible rfl
                  try simp only [Act.put, List.setIfInBounds_toArray, List.set_cons_zero, List.set_cons_succ]
                  refine takeH (i := 7) (some 121) ?vc19 rfl rfl (by kernel_rfl) (by kernel_rfl) (by kernel_rfl) (fun _ _ _ h => h) (by rfl) ?yc20 (by assumption) ?rc21
                  case yc20 => intro W hSw; obtain ⟨s1, s2, s3⟩ := hSw; go_simp; all_goals with_reducible rfl
                  try simp only [Act.put, List.setIfInBounds_toArray, List.set_cons_zero, List.set_cons_succ]
                  refine takeH (i := 8) (some 122) ?vc22 rfl rfl (by kernel_rfl) (by kernel_rfl) (by kernel_rfl) (fun _ _ _ h => h) (by rfl) ?yc23 (by assumption) ?rc24
                  case yc23 => intro W hSw; obtain ⟨s1, s2, s3⟩ := hSw; go_simp; all_goals with_reducible rfl
                  try simp only [Act.put, List.setIfInBounds_toArray, List.set_cons_zero, List.set_cons_succ]
                  refine takeH (i := 9) (some 123) ?vc25 rfl rfl (by kernel_rfl) (by kernel_rfl) (by kernel_rfl) (fun _ _ _ h => h) (by rfl) ?yc26 (by assumption) ?rc27
                  case yc26 => intro W hSw; obtain ⟨s1, s2, s3⟩ := hSw; go_simp; all_goals with_reducible rfl
                  try simp only [Act.put, List.setIfInBounds_toArray, List.set_cons_zero, List.set_cons_succ]
                  refine takeH (i := 10) (some 124) ?vc28 rfl rfl (by kernel_rfl) (by kernel_rfl) (by kernel_rfl) (fun _ _ _ h => h) (by rfl) ?yc29 (by assumption) ?rc30
                  case yc29 => intro W hSw; obtain ⟨s1, s2, s3⟩ := hSw; go_simp; all_goals with_reducible rfl
                  try simp only [Act.put, List.setIfInBounds_toArray, List.set_cons_zero, List.set_cons_succ]
                  refine takeH (i := 11) (some 125) ?vc31 rfl rfl (by kernel_rfl) (by kernel_rfl) (by kernel_rfl) (fun _ _ _ h => h) (by rfl) ?yc32 (by assumption) ?rc33
                  case yc32 => intro W hSw; obtain ⟨s1, s2, s3⟩ := hSw; go_simp; all_goals with_reducible rfl
                  try simp only [Act.put, List.setIfInBounds_toArray, List.set_cons_zero, List.set_cons_succ]
                  refine wpAnyH_ready (rs := [12]) (by kernel_rfl) (by simp) ?_
                  refine (AllReadyH.cons rfl (fun K hK => ?_) AllReadyH.nil)
                  go_simp
                  refine (HDG.out _).mono ?_
                  rintro e6 w6 ⟨rfl, hb6⟩
                  have HB6d := Lib.hid hb6
                  clear hb6
                  refine hK.out _ _ (by have h7 := HB6d.out; exact ⟨(World.cell?_of_block (a := ⟨w.heap.size, 0, none⟩) (h7.block _ (by simp; omega))).trans ck, (World.cell?_of_block (a := ⟨wr.heap.size, 0, none⟩) (h7.block _ (by simp; omega))).trans cn, rangeAt_kept cr (h7.block _ (by simp; omega))⟩) (fun hHeld => ?_)
                  clear hK K
                  try simp only [Act.put, List.setIfInBounds_toArray, List.set_cons_zero, List.set_cons_succ]
                  refine takeH (i := 13) (some 127) (.bool true) rfl rfl (by kernel_rfl) (by kernel_rfl) (by kernel_rfl) (fun _ _ _ h => h) (by rfl) (fun W hSw => x_neqS rfl (by kernel_rfl) (by kernel_rfl) (decide_eq_true hnx)) (by assumption) ?_
                  try simp only [Act.put, List.setIfInBounds_toArray, List.set_cons_zero, List.set_cons_succ]
                  refine takeH (i := 14) (some 128) ?vc34 rfl rfl (by kernel_rfl) (by kernel_rfl) (by kernel_rfl) (fun _ _ _ h => h) (by rfl) ?yc35 (by assumption) ?rc36
                  case yc35 => intro W hSw; obtain ⟨s1, s2, s3⟩ := hSw; go_simp; all_goals with_reducible rfl
                  try simp only [Act.put, List.setIfInBounds_toArray, List.set_cons_zero, List.set_cons_succ]
                  refine takeH (i := 15) (some 129) ?vc37 rfl rfl (by kernel_rfl) (by kernel_rfl) (by kernel_rfl) (fun _ _ _ h => h) (by rfl) ?yc38 (by assumption) ?rc39
                  case yc38 => intro W hSw; obtain ⟨s1, s2, s3⟩ := hSw; go_simp; all_goals with_reducible rfl
                  try simp only [Act.put, List.setIfInBounds_toArray, List.set_cons_zero, List.set_cons_succ]
                  refine takeH (i := 16) (some 130) ?vc40 rfl rfl (by kernel_rfl) (by kernel_rfl) (by kernel_rfl) (fun _ _ _ h => h) (by rfl) ?yc41 (by assumption) ?rc42
                  case yc41 => intro W hSw; obtain ⟨s1, s2, s3⟩ := hSw; go_simp; all_goals with_reducible rfl
                  try simp only [Act.put, List.setIfInBounds_toArray, List.set_cons_zero, List.set_cons_succ]
                  refine takeU (i := 17) (some 131) rfl rfl (by kernel_rfl) (by kernel_rfl) (by kernel_rfl) (fun _ _ _ h => h) (by rfl) (by assumption) ?_
                  try simp only [Act.put, List.setIfInBounds_toArray, List.set_cons_zero, List.set_cons_succ]
                  refine takeU (i := 18) (some 132) rfl rfl (by kernel_rfl) (by kernel_rfl) (by kernel_rfl) (fun _ _ _ h => h) (by rfl) (by assumption) ?_
                  try simp only [Act.put, List.setIfInBounds_toArray, List.set_cons_zero, List.set_cons_succ]
                  refine takeU (i := 19) (some 133) rfl rfl (by kernel_rfl) (by kernel_rfl) (by kernel_rfl) (fun _ _ _ h => h) (by rfl) (by assumption) ?_
                  try simp only [Act.put, List.setIfInBounds_toArray, List.set_cons_zero, List.set_cons_succ]
                  refine takeU (i := 20) (some 134) rfl rfl (by kernel_rfl) (by kernel_rfl) (by kernel_rfl) (fun _ _ _ h => h) (by rfl) (by assumption) ?_
                  try simp only [Act.put, List.setIfInBounds_toArray, List.set_cons_zero, List.set_cons_succ]
                  refine takeU (i := 21) (some 135) rfl rfl (by kernel_rfl) (by kernel_rfl) (by kernel_rfl) (fun _ _ _ h => h) (by rfl) (by assumption) ?_
                  try simp only [Act.put, List.setIfInBounds_toArray, List.set_cons_zero, List.set_cons_succ]
                  refine takeU (i := 22) (some 136) rfl rfl (by kernel_rfl) (by kernel_rfl) (by kernel_rfl) (fun _ _ _ h => h) (by rfl) (by assumption) ?_
                  try simp only [Act.put, List.setIfInBounds_toArray, List.set_cons_zero, List.set_cons_succ]
                  refine takeH (i := 23) (some 137) ?vc43 rfl rfl (by kernel_rfl) (by kernel_rfl) (by kernel_rfl) (fun _ _ _ h => h) (by rfl) ?yc44 (by assumption) ?rc45
                  case yc44 => intro W hSw; obtain ⟨s1, s2, s3⟩ := hSw; go_simp; all_goals with_reducible rfl
                  try simp only [Act.put, List.setIfInBounds_toArray, List.set_cons_zero, List.set_cons_succ]
                  refine wpAnyH_done (by kernel_rfl) ?_ _
                  refine NoPanic.normal ?_
                  go_wp2
                  go_ret
                  exact ⟨_, rfl, fun h => absurd h (by decide), ((HB4.out.trans (HB5.out.mono (by have := HB4.out.size; omega))).trans (below_drew (HB6.out.mono (by omega)))).trans (HB6d.out.mono (by have := HB4.out.size; have := HB5.out.size; have := HB6.out.size; simp; omega))⟩
                · skip
                  refine wp_region_noPanic ?_
                  refine wp_region_held_drew (S := fun w' => w'.cell? ⟨w.heap.size, 0, none⟩ = some (.int .i64 K) ∧ w'.cell? ⟨wr.heap.size, 0, none⟩ = some (.string nm) ∧ w'.rangeAt wr.heap.size 1 cv.toList) (by kernel_rfl) (⟨ck, cn, cr⟩) (fun hHeld => ?_)
                  refine takeH (i := 0) (some 114) ?vd46 rfl rfl (by kernel_rfl) (by kernel_rfl) (by kernel_rfl) (fun _ _ _ h => h) (by rfl) ?yd47 (by assumption) ?rd48
                  case yd47 => intro W hSw; obtain ⟨s1, s2, s3⟩ := hSw; go_simp; all_goals with_reducible rfl
                  try simp only [Act.put, List.setIfInBounds_toArray, List.set_cons_zero, List.set_cons_succ]
                  refine takeH (i := 1) (some 115) ?vd49 rfl rfl (by kernel_rfl) (by kernel_rfl) (by kernel_rfl) (fun _ _ _ h => h) (by rfl) ?yd50 (by assumption) ?rd51
                  case yd50 => intro W hSw; obtain ⟨s1, s2, s3⟩ := hSw; go_simp; all_goals with_reducible rfl
                  try simp only [Act.put, List.setIfInBounds_toArray, List.set_cons_zero, List.set_cons_succ]
                  refine wpAnyH_ready (rs := [2]) (by kernel_rfl) (by simp) ?_
                  refine (AllReadyH.cons rfl (fun K hK => ?_) AllReadyH.nil)
                  go_simp
                  refine (HP.out _).mono ?_
                  rintro e5 w5 ⟨rfl, rfl⟩
                  refine hK.out _ _ (hHeld) (fun hHeld => ?_)
                  clear hK K
                  try simp only [Act.put, List.setIfInBounds_toArray, List.set_cons_zero, List.set_cons_succ]
                  refine takeH (i := 3) (some 117) ?vd52 rfl rfl (by kernel_rfl) (by kernel_rfl) (by kernel_rfl) (fun _ _ _ h => h) (by rfl) ?yd53 (by assumption) ?rd54
                  case yd53 => intro W hSw; obtain ⟨s1, s2, s3⟩ := hSw; go_simp; all_goals with_reducible rfl
                  try simp only [Act.put, List.setIfInBounds_toArray, List.set_cons_zero, List.set_cons_succ]
                  refine takeH (i := 4) (some 118) ?vd55 rfl rfl (by kernel_rfl) (by kernel_rfl) (by kernel_rfl) (fun _ _ _ h => h) (by rfl) ?yd56 (by assumption) ?rd57
                  case yd56 => intro W hSw; obtain ⟨s1, s2, s3⟩ := hSw; go_simp; all_goals with_reducible rfl
                  try simp only [Act.put, List.setIfInBounds_toArray, List.set_cons_zero, List.set_cons_succ]
                  refine takeH (i := 5) (some 119) ?vd58 rfl rfl (by kernel_rfl) (by kernel_rfl) (by kernel_rfl) (fun _ _ _ h => h) (by rfl) ?yd59 (by assumption) ?rd60
                  case yd59 => intro W hSw; obtain ⟨s1, s2, s3⟩ := hSw; go_simp; all_goals with_reducible rfl
                  try simp only [Act.put, List.setIfInBounds_toArray, List.set_cons_zero, List.set_cons_succ]
                  refine takeH (i := 6) (some 120) ?vd61 rfl rfl (by kernel_rfl) (by kernel_rfl) (by kernel_rfl) (fun _ _ _ h => h) (by rfl) ?yd62 (by assumption) ?rd63
                  case yd62 => intro W hSw; obtain ⟨s1, s2, s3⟩ := hSw; go_simp; all_goals with_reducible rfl
                  try simp only [Act.put, List.setIfInBounds_toArray, List.set_cons_zero, List.set_cons_succ]
                  refine takeH (i := 7) (some 121) ?vd64 rfl rfl (by kernel_rfl) (by kernel_rfl) (by kernel_rfl) (fun _ _ _ h => h) (by rfl) ?yd65 (by assumption) ?rd66
                  case yd65 => intro W hSw; obtain ⟨s1, s2, s3⟩ := hSw; go_simp; all_goals with_reducible rfl
                  try simp only [Act.put, List.setIfInBounds_toArray, List.set_cons_zero, List.set_cons_succ]
                  refine takeH (i := 8) (some 122) ?vd67 rfl rfl (by kernel_rfl) (by kernel_rfl) (by kernel_rfl) (fun _ _ _ h => h) (by rfl) ?yd68 (by assumption) ?rd69
                  case yd68 => intro W hSw; obtain ⟨s1, s2, s3⟩ := hSw; go_simp; all_goals with_reducible rfl
                  try simp only [Act.put, List.setIfInBounds_toArray, List.set_cons_zero, List.set_cons_succ]
                  refine takeH (i := 9) (some 123) ?vd70 rfl rfl (by kernel_rfl) (by kernel_rfl) (by kernel_rfl) (fun _ _ _ h => h) (by rfl) ?yd71 (by assumption) ?rd72
                  case yd71 => intro W hSw; obtain ⟨s1, s2, s3⟩ := hSw; go_simp; all_goals with_reducible rfl
                  try simp only [Act.put, List.setIfInBounds_toArray, List.set_cons_zero, List.set_cons_succ]
                  refine takeH (i := 10) (some 124) ?vd73 rfl rfl (by kernel_rfl) (by kernel_rfl) (by kernel_rfl) (fun _ _ _ h => h) (by rfl) ?yd74 (by assumption) ?rd75
                  case yd74 => intro W hSw; obtain ⟨s1, s2, s3⟩ := hSw; go_simp; all_goals with_reducible rfl
                  try simp only [Act.put, List.setIfInBounds_toArray, List.set_cons_zero, List.set_cons_succ]
                  refine takeH (i := 11) (some 125) ?vd76 rfl rfl (by kernel_rfl) (by kernel_rfl) (by kernel_rfl) (fun _ _ _ h => h) (by rfl) ?yd77 (by assumption) ?rd78
                  case yd77 => intro W hSw; obtain ⟨s1, s2, s3⟩ := hSw; go_simp; all_goals with_reducible rfl
                  try simp only [Act.put, List.setIfInBounds_toArray, List.set_cons_zero, List.set_cons_succ]
                  refine wpAnyH_ready (rs := [12]) (by kernel_rfl) (by simp) ?_
                  refine (AllReadyH.cons rfl (fun K hK => ?_) AllReadyH.nil)
                  go_simp
                  refine (HDG.out _).mono ?_
                  rintro e6 w6 ⟨rfl, hb6⟩
                  have HB6d := Lib.hid hb6
                  clear hb6
                  refine hK.out _ _ (by have h7 := HB6d.out; exact ⟨(World.cell?_of_block (a := ⟨w.heap.size, 0, none⟩) (h7.block _ (by simp; omega))).trans ck, (World.cell?_of_block (a := ⟨wr.heap.size, 0, none⟩) (h7.block _ (by simp; omega))).trans cn, rangeAt_kept cr (h7.block _ (by simp; omega))⟩) (fun hHeld => ?_)
                  clear hK K
                  try simp only [Act.put, List.setIfInBounds_toArray, List.set_cons_zero, List.set_cons_succ]
                  refine takeH (i := 13) (some 127) (.bool false) rfl rfl (by kernel_rfl) (by kernel_rfl) (by kernel_rfl) (fun _ _ _ h => h) (by rfl) (fun W hSw => x_neqS rfl (by kernel_rfl) (by kernel_rfl) (decide_eq_false hnx)) (by assumption) ?_
                  try simp only [Act.put, List.setIfInBounds_toArray, List.set_cons_zero, List.set_cons_succ]
                  refine takeH (i := 14) (some 128) ?vd79 rfl rfl (by kernel_rfl) (by kernel_rfl) (by kernel_rfl) (fun _ _ _ h => h) (by rfl) ?yd80 (by assumption) ?rd81
                  case yd80 => intro W hSw; obtain ⟨s1, s2, s3⟩ := hSw; go_simp; all_goals with_reducible rfl
                  try simp only [Act.put, List.setIfInBounds_toArray, List.set_cons_zero, List.set_cons_succ]
                  refine takeH (i := 15) (some 129) ?vd82 rfl rfl (by kernel_rfl) (by kernel_rfl) (by kernel_rfl) (fun _ _ _ h => h) (by rfl) ?yd83 (by assumption) ?rd84
                  case yd83 => intro W hSw; obtain ⟨s1, s2, s3⟩ := hSw; go_simp; all_goals with_reducible rfl
                  try simp only [Act.put, List.setIfInBounds_toArray, List.set_cons_zero, List.set_cons_succ]
                  refine takeH (i := 16) (some 130) ?vd85 rfl rfl (by kernel_rfl) (by kernel_rfl) (by kernel_rfl) (fun _ _ _ h => h) (by rfl) ?yd86 (by assumption) ?rd87
                  case yd86 => intro W hSw; obtain ⟨s1, s2, s3⟩ := hSw; go_simp; all_goals with_reducible rfl
                  try simp only [Act.put, List.setIfInBounds_toArray, List.set_cons_zero, List.set_cons_succ]
                  refine takeH (i := 17) (some 131) ?vd88 rfl rfl (by kernel_rfl) (by kernel_rfl) (by kernel_rfl) (fun _ _ _ h => h) (by rfl) ?yd89 (by assumption) ?rd90
                  case yd89 => intro W hSw; obtain ⟨s1, s2, s3⟩ := hSw; go_simp; all_goals with_reducible rfl
                  try simp only [Act.put, List.setIfInBounds_toArray, List.set_cons_zero, List.set_cons_succ]
                  refine takeH (i := 18) (some 132) (.agg cv) rfl rfl (by kernel_rfl) (by kernel_rfl) (by kernel_rfl) (fun _ _ _ h => h) (by rfl) (fun W hSw => x_load_arr 26 (.tmp 131) wr.heap.size 1 cv _ rfl rfl hSw.2.2 Tryz.underlying26 rfl hi26) (by assumption) ?_
                  try simp only [Act.put, List.setIfInBounds_toArray, List.set_cons_zero, List.set_cons_succ]
                  refine takeH (i := 19) (some 133) ?vd91 rfl rfl (by kernel_rfl) (by kernel_rfl) (by kernel_rfl) (fun _ _ _ h => h) (by rfl) ?yd92 (by assumption) ?rd93
                  case yd92 => intro W hSw; obtain ⟨s1, s2, s3⟩ := hSw; go_simp; all_goals with_reducible rfl
                  try simp only [Act.put, List.setIfInBounds_toArray, List.set_cons_zero, List.set_cons_succ]
                  refine takeH (i := 20) (some 134) ?vd94 rfl rfl (by kernel_rfl) (by kernel_rfl) (by kernel_rfl) (fun _ _ _ h => h) (by rfl) ?yd95 (by assumption) ?rd96
                  case yd95 => intro W hSw; obtain ⟨s1, s2, s3⟩ := hSw; go_simp; all_goals with_reducible rfl
                  try simp only [Act.put, List.setIfInBounds_toArray, List.set_cons_zero, List.set_cons_succ]
                  refine wpAnyH_ready (rs := [21]) (by kernel_rfl) (by simp) ?_
                  refine (AllReadyH.cons rfl (fun K hK => ?_) AllReadyH.nil)
                  go_simp
                  refine (HRC.out w6 (HVD.out.kept (Nat.le_refl _) fun q hq => HB6d.out.block q (Nat.lt_of_lt_of_le hq HSD.out)) (Nat.le_trans HSD.out HB6d.out.size)).mono ?_
                  rintro e7 w7 ⟨r7, rfl, hr7, hb7⟩
                  have HR7 := Lib.hid hr7
                  have HB7 := Lib.hid hb7
                  clear hr7 hb7
                  refine hK.out _ _ (by have h7 := HB6d.out.trans (HB7.out.mono HB6d.out.size); exact ⟨(World.cell?_of_block (a := ⟨w.heap.size, 0, none⟩) (h7.block _ (by simp; omega))).trans ck, (World.cell?_of_block (a := ⟨wr.heap.size, 0, none⟩) (h7.block _ (by simp; omega))).trans cn, rangeAt_kept cr (h7.block _ (by simp; omega))⟩) (fun hHeld => ?_)
                  clear hK K
                  try simp only [Act.put, List.setIfInBounds_toArray, List.set_cons_zero, List.set_cons_succ]
                  refine takeH (i := 22) (some 136) ?vd97 rfl rfl (by kernel_rfl) (by kernel_rfl) (by kernel_rfl) (fun _ _ _ h => h) (by rfl) ?yd98 (by assumption) ?rd99
                  case yd98 => intro W hSw; obtain ⟨s1, s2, s3⟩ := hSw; go_simp; all_goals with_reducible rfl
                  try simp only [Act.put, List.setIfInBounds_toArray, List.set_cons_zero, List.set_cons_succ]
                  refine takeH (i := 23) (some 137) ?vd100 rfl rfl (by kernel_rfl) (by kernel_rfl) (by kernel_rfl) (fun _ _ _ h => h) (by rfl) ?yd101 (by assumption) ?rd102
                  case yd101 => intro W hSw; obtain ⟨s1, s2, s3⟩ := hSw; go_simp; all_goals with_reducible rfl
                  try simp only [Act.put, List.setIfInBounds_toArray, List.set_cons_zero, List.set_cons_succ]
                  refine wpAnyH_done (by kernel_rfl) ?_ _
                  refine NoPanic.normal ?_
                  cases r7 with
                  | false =>
                    go_wp2
                    go_ret
                    exact ⟨_, rfl, fun h => absurd h (by decide), (((HB4.out.trans (HB5.out.mono (by have := HB4.out.size; omega))).trans (below_drew (HB6.out.mono (by omega)))).trans (HB6d.out.mono (by have := HB4.out.size; have := HB5.out.size; have := HB6.out.size; simp; omega))).trans (HB7.out.mono (Nat.le_trans (by have := HB4.out.size; have := HB5.out.size; have := HB6.out.size; simp; omega) HB6d.out.size))⟩
                  | true =>
                    go_wp2
                    go_roundg (kn - (i + 1))
                    case measure => omega
                    case rel => exact ⟨i + 1, rfl, by omega, rfl, kids_more HKS.out hik (by rw [← HE.out.2]; exact HR7.out trivial), HB5.out.trans (((below_drew HB6.out).trans ((HB6d.out.trans (HB7.out.mono HB6d.out.size)).mono (by have := HB6.out.size; simp; omega))).mono HB5.out.size)⟩
              · have e4 : (K == 4) = false := beq_eq_false_iff_ne.2 k4
                refine wp_region_noPanic ?_
                refine wp_region_held_drew (S := fun w' => w'.cell? ⟨w.heap.size, 0, none⟩ = some (.int .i64 K) ∧ w'.cell? ⟨wr.heap.size, 0, none⟩ = some (.string nm) ∧ w'.rangeAt wr.heap.size 1 cv.toList) (by kernel_rfl) (⟨ck, cn, cr⟩) (fun hHeld => ?_)
                refine takeH (i := 0) (some 114) ?vb22 rfl rfl (by kernel_rfl) (by kernel_rfl) (by kernel_rfl) (fun _ _ _ h => h) (by rfl) ?yb23 (by assumption) ?rb24
                case yb23 => intro W hSw; obtain ⟨s1, s2, s3⟩ := hSw; go_simp; all_goals with_reducible rfl
                try simp only [Act.put, List.setIfInBounds_toArray, List.set_cons_zero, List.set_cons_succ]
                refine takeH (i := 1) (some 115) ?vb25 rfl rfl (by kernel_rfl) (by kernel_rfl) (by kernel_rfl) (fun _ _ _ h => h) (by rfl) ?yb26 (by assumption) ?rb27
                case yb26 => intro W hSw; obtain ⟨s1, s2, s3⟩ := hSw; go_simp; all_goals with_reducible rfl
                try simp only [Act.put, List.setIfInBounds_toArray, List.set_cons_zero, List.set_cons_succ]
                refine wpAnyH_ready (rs := [2]) (by kernel_rfl) (by simp) ?_
                refine (AllReadyH.cons rfl (fun K hK => ?_) AllReadyH.nil)
                go_simp
                refine (HP.out _).mono ?_
                rintro e5 w5 ⟨rfl, rfl⟩
                refine hK.out _ _ (hHeld) (fun hHeld => ?_)
                clear hK K
                try simp only [Act.put, List.setIfInBounds_toArray, List.set_cons_zero, List.set_cons_succ]
                refine takeH (i := 3) (some 117) ?vb28 rfl rfl (by kernel_rfl) (by kernel_rfl) (by kernel_rfl) (fun _ _ _ h => h) (by rfl) ?yb29 (by assumption) ?rb30
                case yb29 => intro W hSw; obtain ⟨s1, s2, s3⟩ := hSw; go_simp; all_goals with_reducible rfl
                try simp only [Act.put, List.setIfInBounds_toArray, List.set_cons_zero, List.set_cons_succ]
                refine takeH (i := 4) (some 118) ?vb31 rfl rfl (by kernel_rfl) (by kernel_rfl) (by kernel_rfl) (fun _ _ _ h => h) (by rfl) ?yb32 (by assumption) ?rb33
                case yb32 => intro W hSw; obtain ⟨s1, s2, s3⟩ := hSw; go_simp; all_goals with_reducible rfl
                try simp only [Act.put, List.setIfInBounds_toArray, List.set_cons_zero, List.set_cons_succ]
                refine takeH (i := 5) (some 119) ?vb34 rfl rfl (by kernel_rfl) (by kernel_rfl) (by kernel_rfl) (fun _ _ _ h => h) (by rfl) ?yb35 (by assumption) ?rb36
                case yb35 => intro W hSw; obtain ⟨s1, s2, s3⟩ := hSw; go_simp; all_goals with_reducible rfl
                try simp only [Act.put, List.setIfInBounds_toArray, List.set_cons_zero, List.set_cons_succ]
                refine takeH (i := 6) (some 120) ?vb37 rfl rfl (by kernel_rfl) (by kernel_rfl) (by kernel_rfl) (fun _ _ _ h => h) (by rfl) ?yb38 (by assumption) ?rb39
                case yb38 => intro W hSw; obtain ⟨s1, s2, s3⟩ := hSw; go_simp; all_goals with_reducible rfl
                try simp only [Act.put, List.setIfInBounds_toArray, List.set_cons_zero, List.set_cons_succ]
                refine takeH (i := 7) (some 121) ?vb40 rfl rfl (by kernel_rfl) (by kernel_rfl) (by kernel_rfl) (fun _ _ _ h => h) (by rfl) ?yb41 (by assumption) ?rb42
                case yb41 => intro W hSw; obtain ⟨s1, s2, s3⟩ := hSw; go_simp; all_goals with_reducible rfl
                try simp only [Act.put, List.setIfInBounds_toArray, List.set_cons_zero, List.set_cons_succ]
                refine takeH (i := 8) (some 122) ?vb43 rfl rfl (by kernel_rfl) (by kernel_rfl) (by kernel_rfl) (fun _ _ _ h => h) (by rfl) ?yb44 (by assumption) ?rb45
                case yb44 => intro W hSw; obtain ⟨s1, s2, s3⟩ := hSw; go_simp; all_goals with_reducible rfl
                try simp only [Act.put, List.setIfInBounds_toArray, List.set_cons_zero, List.set_cons_succ]
                refine takeU (i := 9) (some 123) rfl rfl (by kernel_rfl) (by kernel_rfl) (by kernel_rfl) (fun _ _ _ h => h) (by rfl) (by assumption) ?_
                try simp only [Act.put, List.setIfInBounds_toArray, List.set_cons_zero, List.set_cons_succ]
                refine takeU (i := 10) (some 124) rfl rfl (by kernel_rfl) (by kernel_rfl) (by kernel_rfl) (fun _ _ _ h => h) (by rfl) (by assumption) ?_
                try simp only [Act.put, List.setIfInBounds_toArray, List.set_cons_zero, List.set_cons_succ]
                refine takeU (i := 11) (some 125) rfl rfl (by kernel_rfl) (by kernel_rfl) (by kernel_rfl) (fun _ _ _ h => h) (by rfl) (by assumption) ?_
                try simp only [Act.put, List.setIfInBounds_toArray, List.set_cons_zero, List.set_cons_succ]
                refine takeU (i := 12) (some 126) rfl rfl (by kernel_rfl) (by kernel_rfl) (by kernel_rfl) (fun _ _ _ h => h) (by rfl) (by assumption) ?_
                try simp only [Act.put, List.setIfInBounds_toArray, List.set_cons_zero, List.set_cons_succ]
                refine takeU (i := 13) (some 127) rfl rfl (by kernel_rfl) (by kernel_rfl) (by kernel_rfl) (fun _ _ _ h => h) (by rfl) (by assumption) ?_
                try simp only [Act.put, List.setIfInBounds_toArray, List.set_cons_zero, List.set_cons_succ]
                refine takeH (i := 14) (some 128) ?vb46 rfl rfl (by kernel_rfl) (by kernel_rfl) (by kernel_rfl) (fun _ _ _ h => h) (by rfl) ?yb47 (by assumption) ?rb48
                case yb47 => intro W hSw; obtain ⟨s1, s2, s3⟩ := hSw; go_simp; all_goals with_reducible rfl
                try simp only [Act.put, List.setIfInBounds_toArray, List.set_cons_zero, List.set_cons_succ]
                refine takeH (i := 15) (some 129) ?vb49 rfl rfl (by kernel_rfl) (by kernel_rfl) (by kernel_rfl) (fun _ _ _ h => h) (by rfl) ?yb50 (by assumption) ?rb51
                case yb50 => intro W hSw; obtain ⟨s1, s2, s3⟩ := hSw; go_simp; all_goals with_reducible rfl
                try simp only [Act.put, List.setIfInBounds_toArray, List.set_cons_zero, List.set_cons_succ]
                refine takeH (i := 16) (some 130) ?vb52 rfl rfl (by kernel_rfl) (by kernel_rfl) (by kernel_rfl) (fun _ _ _ h => h) (by rfl) ?yb53 (by assumption) ?rb54
                case yb53 => intro W hSw; obtain ⟨s1, s2, s3⟩ := hSw; go_simp; all_goals with_reducible rfl
                try simp only [Act.put, List.setIfInBounds_toArray, List.set_cons_zero, List.set_cons_succ]
                refine takeH (i := 17) (some 131) ?vb55 rfl rfl (by kernel_rfl) (by kernel_rfl) (by kernel_rfl) (fun _ _ _ h => h) (by rfl) ?yb56 (by assumption) ?rb57
                case yb56 => intro W hSw; obtain ⟨s1, s2, s3⟩ := hSw; go_simp; all_goals with_reducible rfl
                try simp only [Act.put, List.setIfInBounds_toArray, List.set_cons_zero, List.set_cons_succ]
                refine takeH (i := 18) (some 132) (.agg cv) rfl rfl (by kernel_rfl) (by kernel_rfl) (by kernel_rfl) (fun _ _ _ h => h) (by rfl) (fun W hSw => x_load_arr 26 (.tmp 131) wr.heap.size 1 cv _ rfl rfl hSw.2.2 Tryz.underlying26 rfl hi26) (by assumption) ?_
                try simp only [Act.put, List.setIfInBounds_toArray, List.set_cons_zero, List.set_cons_succ]
                refine takeH (i := 19) (some 133) ?vb61 rfl rfl (by kernel_rfl) (by kernel_rfl) (by kernel_rfl) (fun _ _ _ h => h) (by rfl) ?yb62 (by assumption) ?rb63
                case yb62 => intro W hSw; obtain ⟨s1, s2, s3⟩ := hSw; go_simp; all_goals with_reducible rfl
                try simp only [Act.put, List.setIfInBounds_toArray, List.set_cons_zero, List.set_cons_succ]
                refine takeH (i := 20) (some 134) ?vb64 rfl rfl (by kernel_rfl) (by kernel_rfl) (by kernel_rfl) (fun _ _ _ h => h) (by rfl) ?yb65 (by assumption) ?rb66
                case yb65 => intro W hSw; obtain ⟨s1, s2, s3⟩ := hSw; go_simp; all_goals with_reducible rfl
                try simp only [Act.put, List.setIfInBounds_toArray, List.set_cons_zero, List.set_cons_succ]
                refine wpAnyH_ready (rs := [21]) (by kernel_rfl) (by simp) ?_
                refine (AllReadyH.cons rfl (fun K hK => ?_) AllReadyH.nil)
                go_simp
                refine (HRC.out _ HVD.out HSD.out).mono ?_
                rintro e7 w7 ⟨r7, rfl, hr7, hb7⟩
                have HR7 := Lib.hid hr7
                have HB7 := Lib.hid hb7
                clear hr7 hb7
                refine hK.out _ _ (by have h7 := HB7.out; exact ⟨(World.cell?_of_block (a := ⟨w.heap.size, 0, none⟩) (h7.block _ (by simp; omega))).trans ck, (World.cell?_of_block (a := ⟨wr.heap.size, 0, none⟩) (h7.block _ (by simp; omega))).trans cn, rangeAt_kept cr (h7.block _ (by simp; omega))⟩) (fun hHeld => ?_)
                clear hK K
                try simp only [Act.put, List.setIfInBounds_toArray, List.set_cons_zero, List.set_cons_succ]
                refine takeH (i := 22) (some 136) ?vb67 rfl rfl (by kernel_rfl) (by kernel_rfl) (by kernel_rfl) (fun _ _ _ h => h) (by rfl) ?yb68 (by assumption) ?rb69
                case yb68 => intro W hSw; obtain ⟨s1, s2, s3⟩ := hSw; go_simp; all_goals with_reducible rfl
                try simp only [Act.put, List.setIfInBounds_toArray, List.set_cons_zero, List.set_cons_succ]
                refine takeH (i := 23) (some 137) ?vb70 rfl rfl (by kernel_rfl) (by kernel_rfl) (by kernel_rfl) (fun _ _ _ h => h) (by rfl) ?yb71 (by assumption) ?rb72
                case yb71 => intro W hSw; obtain ⟨s1, s2, s3⟩ := hSw; go_simp; all_goals with_reducible rfl
                try simp only [Act.put, List.setIfInBounds_toArray, List.set_cons_zero, List.set_cons_succ]
                refine wpAnyH_done (by kernel_rfl) ?_ _
                refine NoPanic.normal ?_
                cases r7 with
                | false =>
                  go_wp2
                  go_ret
                  exact ⟨_, rfl, fun h => absurd h (by decide), ((HB4.out.trans (HB5.out.mono (by have := HB4.out.size; omega))).trans (below_drew (HB6.out.mono (by omega)))).trans (HB7.out.mono (by have := HB4.out.size; have := HB5.out.size; have := HB6.out.size; simp; omega))⟩
                | true =>
                  go_wp2
                  go_roundg (kn - (i + 1))
                  case measure => omega
                  case rel => exact ⟨i + 1, rfl, by omega, rfl, kids_more HKS.out hik (by rw [← HE.out.2]; exact HR7.out trivial), HB5.out.trans (((below_drew HB6.out).trans (HB7.out.mono (by have := HB6.out.size; simp; omega))).mono HB5.out.size)⟩
          · go_wp2
            go_ret
            exact ⟨_, rfl, fun _ => .mk hKn fun _ e he => HKS.out e (by rw [List.take_of_length_le (by have := HN.out.2; omega)]; exact he), HB4.out.trans (HB5.out.mono (by have := HB4.out.size; omega))⟩

end Go.Proofs.YtpkfdbhpmhahaaaGreatDoor
