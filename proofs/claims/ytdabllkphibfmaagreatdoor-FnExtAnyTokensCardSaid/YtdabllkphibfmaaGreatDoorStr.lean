/- scanString, by its contract. -/
import Derived.Test.YtdabllkphibfmaaGreatDoorStrB
namespace Go.Proofs.YtdabllkphibfmaaGreatDoor
open Go Go.RowKit

theorem unesc_cases {e x : UInt8} (h : unesc e = some x) : (e = 34 ∧ x = 34) ∨ (e = 92 ∧ x = 92) ∨ (e = 47 ∧ x = 47) ∨ (e = 98 ∧ x = 8) ∨ (e = 102 ∧ x = 12) ∨ (e = 110 ∧ x = 10) ∨ (e = 114 ∧ x = 13) ∨ (e = 116 ∧ x = 9) := by
  unfold unesc at h
  split at h
  · rename_i hc
    injection h with h
    subst h
    rcases hc with rfl | rfl | rfl <;> simp
  split at h
  · rename_i hc; injection h with h; subst h; subst hc; simp
  split at h
  · rename_i hc; injection h with h; subst h; subst hc; simp
  split at h
  · rename_i hc; injection h with h; subst h; subst hc; simp
  split at h
  · rename_i hc; injection h with h; subst h; subst hc; simp
  split at h
  · rename_i hc; injection h with h; subst h; subst hc; simp
  · cases h

theorem byte_ne {e : UInt8} {n : Nat} (h : e.toNat ≠ n) : ((e.toNat : Int) == (n : Int)) = false := by
  simp only [beq_eq_false_iff_ne, ne_eq]
  omega

theorem unesc_none {e : UInt8} (h : unesc e = none) (h2 : e ≠ 117) : ((e.toNat : Int) == 34) = false ∧ ((e.toNat : Int) == 92) = false ∧ ((e.toNat : Int) == 47) = false ∧ ((e.toNat : Int) == 98) = false ∧ ((e.toNat : Int) == 102) = false ∧ ((e.toNat : Int) == 110) = false ∧ ((e.toNat : Int) == 114) = false ∧ ((e.toNat : Int) == 116) = false ∧ ((e.toNat : Int) == 117) = false := by
  have key : ∀ k : UInt8, e ≠ k → e.toNat ≠ k.toNat := fun k hk he => hk (UInt8.toNat_inj.1 he)
  unfold unesc at h
  split at h
  · cases h
  rename_i h3
  split at h
  · cases h
  rename_i h4
  split at h
  · cases h
  rename_i h5
  split at h
  · cases h
  rename_i h6
  split at h
  · cases h
  rename_i h7
  split at h
  · cases h
  rename_i h8
  exact ⟨byte_ne (key 34 fun h => h3 (.inl h)), byte_ne (key 92 fun h => h3 (.inr (.inl h))), byte_ne (key 47 fun h => h3 (.inr (.inr h))), byte_ne (key 98 h4), byte_ne (key 102 h5), byte_ne (key 110 h6), byte_ne (key 114 h7), byte_ne (key 116 h8), byte_ne (key 117 h2)⟩

set_option maxRecDepth 1000000 in
set_option maxHeartbeats 4000000 in
theorem Sc.St.scanString {s : Sc} {g : Option Nat} {q0 : Nat} {w : World} (h : s.St g (q0 + 1) (q0 % 512 + 1) w) (hq0 : q0 < s.T.length) (hT : s.T.length ≤ 1000000) (E : StrEnd) (f0 : Nat) (hE : strRun f0 [] (s.T.drop (q0 + 1)) = E) (hne : E ≠ .out) :
    Calls Tryz.prog 50 #[.pointer (some ⟨s.j, 0, none⟩)] w (s.StrPost g w (q0 % 512) E) := by
  have HL := Lib.hid h
  obtain ⟨bv, ev, hj⟩ := h.js
  have hjs : s.j < w.heap.size := h.lt s.j (.inr (.inr (.inl rfl)))
  obtain ⟨c0, c1, c2, c3, cf⟩ := cell4 hj
  have HE := Lib.hid hE
  obtain ⟨q1, hq1⟩ : ∃ q1, q1 = q0 % 512 := ⟨_, rfl⟩
  rw [← hq1] at c2 h ⊢
  have hq1b : (q1 : Int) < 512 := by omega
  have H := Lib.hid h
  clear cf hj c0 c1 c3 hE h hq1
  go_enter Tryz.func50, Tryz.ntmps50
  go_wp2
  go_loopg [] (s.T.length - (q0 + 1)) (fun m wx => ∃ q acc, m = s.T.length - q ∧ Aside (s.Str g w E q acc wx))
  case atStart =>
    refine ⟨q0 + 1, [], rfl, ?_⟩
    exact ⟨by omega, by omega, ⟨_, HL.out.of_heap fun k hk => Below.heap_alloc _ _ _ (HL.out.lt k hk)⟩, Lib.fresh_isBuffer 107 5 w, by simp, ⟨f0, HE.out⟩, (Fr.refl _ w).alloc _⟩
  case round =>
    obtain ⟨q, acc, rfl, hA⟩ := hrel
    go_step
    go_step3
    obtain ⟨hz, hqn, ⟨p, hst⟩, hbuf, hlen, ⟨f, hrun⟩, hfr⟩ := hA.out
    have HA := Lib.hid hA
    have HS := Lib.hid hst
    have HB := Lib.hid hbuf
    have HR := Lib.hid hrun
    have HF := Lib.hid hfr
    clear hA hst hbuf hrun hfr
    by_cases hq : q < s.T.length
    · have hdrop : s.T.drop q = s.T[q]'hq :: s.T.drop (q + 1) := List.drop_eq_getElem_cons hq
      have hn := HS.out.next1 hz hq
      by_cases c34 : s.T[q]'hq = 34
      · have hE1 : E = .ok acc (s.T.drop (q + 1)) := by
          refine strRun_done HR.out hne ?_
          rw [hdrop]
          simp [strStep, c34]
        rw [c34] at hn
        have HN := Lib.hid hn
        have HE1 := Lib.hid hE1
        clear hdrop hn hE1 c34
        go_wp2_with (first | (go_at_call 47; refine (HN.out).mono ?_; rintro e w1 ⟨rfl, h4, h5⟩; have hb := buf_read HL.out HB.out h5; have H4 := Lib.hid h4; have H5 := Lib.hid h5; have HB1 := Lib.hid hb; clear h4 h5 hb))
        go_step3
        go_wp2_with (first | (go_at_call 43; refine (Tryz.Buffer_String _ _ acc _ HB1.out).mono ?_; rintro e w2 ⟨rfl, n, rfl⟩))
        rw [Exit.noGoto_ret]
        go_ret2
        rw [HE1.out]
        refine ⟨w1.heap.size, rfl, Nat.le_trans HF.out.size H5.out.size, heap_alloc_new (w1.drewN n) _, ⟨q + 1, _, rfl, by omega, by omega, H4.out.of_heap fun k hk => Below.heap_alloc (w1.drewN n) _ _ (H4.out.lt k hk)⟩, ((HF.out.trans H5.out).drewN n).alloc _⟩
      · have h34 : (((s.T[q]'hq).toNat : Int) == 34) = false := by
          simp only [beq_eq_false_iff_ne, ne_eq]
          intro h
          exact c34 (UInt8.toNat_inj.1 (by show _ = 34; omega))
        have hc255 : ((s.T[q]'hq).toNat : Int) ≤ 255 := by have := (s.T[q]'hq).toNat_lt; omega
        by_cases c92 : s.T[q]'hq = 92
        · rw [c92] at hn
          have HN := Lib.hid hn
          clear hn h34 hc255
          go_wp2_with (first | (go_at_call 47; refine (HN.out).mono ?_; rintro e w1 ⟨rfl, h4, h5⟩; have hb := buf_read HL.out HB.out h5; have H4 := Lib.hid h4; have H5 := Lib.hid h5; have HB1 := Lib.hid hb; clear h4 h5 hb))
          go_step3
          by_cases hq2 : q + 1 < s.T.length
          · have hdrop2 : s.T.drop (q + 1) = s.T[q + 1]'hq2 :: s.T.drop (q + 2) := List.drop_eq_getElem_cons hq2
            have hn := H4.out.next1 (by omega) hq2
            cases hu : unesc (s.T[q + 1]'hq2) with
            | some x =>
              have hne117 : s.T[q + 1]'hq2 ≠ 117 := by intro h; rw [h] at hu; simp [unesc] at hu
              obtain ⟨f', hrun⟩ := strRun_more (x := [x]) (r := s.T.drop (q + 2)) HR.out hne (by rw [hdrop, hdrop2]; simp [strStep, c92, hu, hne117])
              have hcs := unesc_cases hu
              have HRUN := Lib.hid hrun
              clear hdrop hdrop2 c34 c92 hrun hu hne117
              rcases hcs with ⟨he, rfl⟩ | ⟨he, rfl⟩ | ⟨he, rfl⟩ | ⟨he, rfl⟩ | ⟨he, rfl⟩ | ⟨he, rfl⟩ | ⟨he, rfl⟩ | ⟨he, rfl⟩
              all_goals
                rw [he] at hn
                have HN := Lib.hid hn
                clear hn he
                go_wp2
                go_step3
                go_wp2_with (first | (go_at_call 47; refine (HN.out).mono ?_; rintro e w2 ⟨rfl, h6, h7⟩; have hb := buf_read HL.out HB1.out h7; have H6 := Lib.hid h6; have H7 := Lib.hid h7; have HB2 := Lib.hid hb; clear h6 h7 hb))
                go_step3
                go_wp2_with (first | (go_at_call 60; refine (Tryz.Buffer_WriteByte_k _ _ _ _ _ HB2.out ?_ (byteCells_oneCell _) ?_).mono ?_; have := HF.out.size; have := H5.out.size; have := H7.out.size; omega; rw [byteCells_length]; omega; rintro e w3 ⟨rfl, hb3, hbel, hoth⟩; have HB3 := Lib.hid hb3; have HBEL := Lib.hid hbel; clear hb3 hbel hoth))
                rw [Exit.noGoto_normal]
                go_wp2
                rw [Exit.noGoto_normal]
                go_wp2
                go_roundg (s.T.length - (q + 2))
                case measure => omega
                case rel =>
                  refine ⟨q + 2, _, rfl, Sc.Str.round HL.out hz HF.out hlen H6.out (H5.out.trans H7.out) ?_ HBEL.out (by simp) (by omega) ⟨_, HRUN.out⟩⟩
                  exact HB3.out
            | none =>
              by_cases c117 : s.T[q + 1]'hq2 = 117
              · have hstep : strStep (s.T.drop q) = strU (s.T.drop (q + 2)) := by rw [hdrop, hdrop2]; simp [strStep, c92, c117]
                have hout : strU (s.T.drop (q + 2)) ≠ .out := fun ho => strRun_out HR.out hne (hstep.trans ho)
                have hcs := strU_cases hout
                rw [c117] at hn
                have HN := Lib.hid hn
                have HST := Lib.hid hstep
                have mk4 := makeRow4
                clear hdrop hdrop2 c34 c92 hu c117 hn hstep hout
                rcases hcs with ⟨hshort, hse⟩ | ⟨a, b, c, d, n, g0, g1, g2, g3, h4n, hu4, hcs⟩
                · have hE1 : E = .err := strRun_err HR.out hne (HST.out.trans hse)
                  have HE1 := Lib.hid hE1
                  clear hse hE1
                  go_wp2
                  go_step3
                  go_wp2_with (first | (go_at_call 47; refine (HN.out).mono ?_; rintro e w2 ⟨rfl, h6, h7⟩; have H6 := Lib.hid h6; have H7 := Lib.hid h7; clear h6 h7))
                  go_step3
                  go_wp2_with (first | (go_at_call 68; refine (readN_short s g (q + 2) _ w2.heap.size 4 0 _ _ (H6.out.alloc _).1 (by omega) (by omega) (by omega) (heap_alloc_new _ _) rfl (by omega) (H6.out.alloc (.cells #[] 5)).2).mono ?_; rintro e w3 ⟨rfl, h8⟩; have H8 := Lib.hid h8; clear h8) | (go_at_call 54; refine (errors_new _ _).mono ?_; rintro e w3 ⟨rfl, rfl⟩))
                  rw [Exit.noGoto_ret]
                  go_wp2
                  rw [Exit.noGoto_ret]
                  go_ret2
                  rw [HE1.out]
                  refine ⟨⟨_, rfl⟩, ?_⟩
                  exact (((((HF.out.trans H5.out).trans H7.out).alloc _).trans' H8.out (by
                    rintro i hi (h | h)
                    · exact h
                    · have := HF.out.size; have := H5.out.size; have := H7.out.size; omega)).alloc _)
                · have hn6 := u4_lt hu4
                  rcases hcs with ⟨hns, hse⟩ | ⟨hn1, hn2, a', b', c', d', m, k0, k1, k2, k3, k4, k5, h10n, hm4, hm1, hm2, hse⟩
                  · obtain ⟨f', hrun⟩ := strRun_more HR.out hne (HST.out.trans hse)
                    have HRUN := Lib.hid hrun
                    have G := Lib.hid (And.intro g0 (And.intro g1 (And.intro g2 g3)))
                    have HU4 := Lib.hid hu4
                    have HNS := Lib.hid hns
                    clear hse hrun g0 g1 g2 g3 hu4 hns
                    go_wp2
                    go_step3
                    go_wp2_with (first | (go_at_call 47; refine (HN.out).mono ?_; rintro e w2 ⟨rfl, h6, h7⟩; have hb := buf_read HL.out HB1.out h7; have H6 := Lib.hid h6; have H7 := Lib.hid h7; have HB2 := Lib.hid hb; clear h6 h7 hb))
                    go_step3
                    go_wp2_with (first | (go_at_call 68; refine (readN4 s g (q + 2) _ _ (H6.out.alloc _).1 (by omega) (by omega) G.out.1 G.out.2.1 G.out.2.2.1 G.out.2.2.2 w2.heap.size _ rfl (heap_alloc_new _ _) (H6.out.alloc (.cells #[] 5)).2).mono ?_; rintro e w3 ⟨rfl, ⟨p3, h8⟩, h9, hf3⟩; have hb3 := buf_read4 HL.out HB2.out (fun k hk => Below.heap_alloc w2 _ k hk) (Nat.le_refl _) (by simp) hf3; have H8 := Lib.hid h8; have H9 := Lib.hid h9; have HF3 := Lib.hid hf3; have HB3 := Lib.hid hb3; clear h8 h9 hf3 hb3) | (go_at_call 69; refine (getu4_at HU4.out _ _ H9.out).mono ?_; rintro e w4 ⟨rfl, rfl⟩) | (go_at_call 70; refine (isSurr_no n HNS.out _).mono ?_; rintro e w4 ⟨rfl, rfl⟩) | (go_at_call 71; refine (writeRune _ _ _ n (by omega) _ HB3.out ?_ (byteCells_oneCell _) ?_).mono ?_; have := HF.out.size; have := H5.out.size; have := H7.out.size; have := HF3.out.size; simp at this; omega; rw [byteCells_length]; omega; rintro e w4 ⟨l, rfl, hb4, hbel⟩; have HB4 := Lib.hid hb4; have HBEL := Lib.hid hbel; clear hb4 hbel))
                    rw [Exit.noGoto_normal]
                    go_wp2
                    rw [Exit.noGoto_normal]
                    go_wp2
                    go_roundg (s.T.length - (q + 2 + 4))
                    case measure => omega
                    case rel =>
                      have hrl := runeB_length n
                      refine ⟨q + 2 + 4, _, rfl, Sc.Str.round HL.out hz HF.out hlen H8.out ((((H5.out.trans H7.out).alloc _).trans' HF3.out (by
                        rintro i hi (h | h)
                        · exact h
                        · have := H5.out.size; have := H7.out.size; omega))) HB4.out HBEL.out (by omega) (by omega) ⟨_, HRUN.out⟩⟩
                  · have hsz : q + 2 + 10 ≤ s.T.length := h10n
                    obtain ⟨f', hrun⟩ := strRun_more HR.out hne (HST.out.trans hse)
                    have e6 : s.T[q + 2 + 4]'(by omega) = 92 := by rw [List.getElem?_eq_getElem (by omega)] at k0; injection k0
                    have e7 : s.T[q + 2 + 4 + 1]'(by omega) = 117 := by rw [List.getElem?_eq_getElem (by omega)] at k1; injection k1
                    have E6 := Lib.hid e6
                    have E7 := Lib.hid e7
                    have HRUN := Lib.hid hrun
                    have G := Lib.hid (And.intro g0 (And.intro g1 (And.intro g2 g3)))
                    have K := Lib.hid (And.intro k2 (And.intro k3 (And.intro k4 k5)))
                    have HU4 := Lib.hid hu4
                    have HM4 := Lib.hid hm4
                    have HNN := Lib.hid (And.intro (And.intro hn1 hn2) (And.intro hm1 hm2))
                    clear hse hrun g0 g1 g2 g3 hu4 e6 e7 k0 k1 k2 k3 k4 k5 hm4
                    go_wp2
                    go_step3
                    go_wp2_with (first | (go_at_call 47; refine (HN.out).mono ?_; rintro e w2 ⟨rfl, h6, h7⟩; have hb := buf_read HL.out HB1.out h7; have H6 := Lib.hid h6; have H7 := Lib.hid h7; have HB2 := Lib.hid hb; clear h6 h7 hb))
                    go_step3
                    go_wp2_with (first | (go_at_call 68; refine (readN4 s g (q + 2) _ _ (H6.out.alloc _).1 (by omega) (by omega) G.out.1 G.out.2.1 G.out.2.2.1 G.out.2.2.2 w2.heap.size _ rfl (heap_alloc_new _ _) (H6.out.alloc (.cells #[] 5)).2).mono ?_; rintro e w3 ⟨rfl, ⟨p3, h8⟩, h9, hf3⟩; have hb3 := buf_read4 HL.out HB2.out (fun k hk => Below.heap_alloc w2 _ k hk) (Nat.le_refl _) (by simp) hf3; have hn3 := h8.next1 (by omega) (by omega); rw [E6.out] at hn3; have HN3 := Lib.hid hn3; have H8 := Lib.hid h8; have H9 := Lib.hid h9; have HF3 := Lib.hid hf3; have HB3 := Lib.hid hb3; clear h8 h9 hf3 hb3 hn3) | (go_at_call 69; refine (getu4_at HU4.out _ _ H9.out).mono ?_; rintro e w4 ⟨rfl, rfl⟩) | (go_at_call 70; refine (isSurr_yes n hn1 hn2 _).mono ?_; rintro e w4 ⟨rfl, rfl⟩) | (go_at_call 47; refine (HN3.out).mono ?_; rintro e w5 ⟨rfl, h10, h11⟩; refine Hid.out ?_))
                    refine Lib.hid ?_
                    have hb5 := buf_read HL.out HB3.out h11
                    have h9b : w5.heap[w2.heap.size]? = _ := (h11.block _ (lt_of_heap H9.out) (fun hS => by have := H6.out.lt _ (Sc.own_of_S hS); omega)).trans H9.out
                    have hn5 := h10.next1 (by omega) (by omega)
                    rw [E7.out] at hn5
                    have HN5 := Lib.hid hn5
                    have H10 := Lib.hid h10
                    have H11 := Lib.hid h11
                    have HB5 := Lib.hid hb5
                    have H9B := Lib.hid h9b
                    clear hn5 h10 h11 hb5 h9b
                    go_wp2_with (first | (go_at_call 47; refine (HN5.out).mono ?_; rintro e w6 ⟨rfl, h12, h13⟩; refine Hid.out ?_))
                    refine Lib.hid ?_
                    have hb6 := buf_read HL.out HB5.out h13
                    have h9c : w6.heap[w2.heap.size]? = _ := (h13.block _ (lt_of_heap H9B.out) (fun hS => by have := H6.out.lt _ (Sc.own_of_S hS); omega)).trans H9B.out
                    have H12 := Lib.hid h12
                    have H13 := Lib.hid h13
                    have HB6 := Lib.hid hb6
                    have H9C := Lib.hid h9c
                    clear h12 h13 hb6 h9c
                    have hdec := decodeRune n m hn1 hn2 hm1 hm2
                    have hpn : ((n - 55296) * 1024 + (m - 56320) + 65536) ≤ 1114111 := by omega
                    have hp0 : 65536 ≤ (n - 55296) * 1024 + (m - 56320) + 65536 := by omega
                    obtain ⟨N, hN⟩ : ∃ N, N = (n - 55296) * 1024 + (m - 56320) + 65536 := ⟨_, rfl⟩
                    rw [← hN] at hdec hpn hp0 HRUN
                    have HDEC := Lib.hid hdec
                    have hp1 : ((N : Int) == 65533) = false := by simp only [beq_eq_false_iff_ne, ne_eq]; omega
                    have hp2 : ((N : Int) != 65533) = true := by simp only [bne, hp1]; rfl
                    clear hdec hN
                    go_wp2_with (first | (go_at_call 68; refine (readN4 s g (q + 2 + 6) _ _ H12.out (by omega) (by omega) K.out.1 K.out.2.1 K.out.2.2.1 K.out.2.2.2 w2.heap.size _ rfl H9C.out (H6.out.alloc (.cells #[] 5)).2).mono ?_; rintro e w7 ⟨rfl, ⟨p7, h14⟩, h15, hf7⟩; have hff := ((HF3.out.trans (H11.out.mono fun _ _ h => .inl h)).trans (H13.out.mono fun _ _ h => .inl h)).trans hf7; have hb7 := buf_read4 HL.out HB2.out (fun k hk => Below.heap_alloc w2 _ k hk) (Nat.le_refl _) (by simp) hff; have HFF := Lib.hid hff; have H14 := Lib.hid h14; have H15 := Lib.hid h15; have HF7 := Lib.hid hf7; have HB7 := Lib.hid hb7; clear h14 h15 hf7 hb7 hff) | (go_at_call 69; refine (getu4_at HM4.out _ _ H15.out).mono ?_; rintro e w8 ⟨rfl, rfl⟩) | (go_at_call 72; refine (HDEC.out _).mono ?_; rintro e w8 ⟨rfl, rfl⟩) | (go_at_call 71; refine (writeRune _ _ _ N hpn _ HB7.out ?_ (byteCells_oneCell _) ?_).mono ?_; have := HF.out.size; have := H5.out.size; have := H7.out.size; have := HFF.out.size; simp at this; omega; rw [byteCells_length]; omega; rintro e w9 ⟨l, rfl, hb9, hbel⟩; have HB9 := Lib.hid hb9; have HBEL := Lib.hid hbel; clear hb9 hbel))
                    rw [Exit.noGoto_normal]
                    go_wp2
                    rw [Exit.noGoto_normal]
                    go_wp2
                    go_roundg (s.T.length - (q + 2 + 10))
                    case measure => omega
                    case rel =>
                      have hrl := runeB_length N
                      refine ⟨q + 2 + 10, _, rfl, Sc.Str.round HL.out hz HF.out hlen H14.out ((((H5.out.trans H7.out).alloc _).trans' HFF.out (by
                        rintro i hi (h | h)
                        · exact h
                        · have := H5.out.size; have := H7.out.size; omega))) HB9.out HBEL.out (by omega) (by omega) ⟨_, HRUN.out⟩⟩
              · have hE1 : E = .err := by
                  refine strRun_err HR.out hne ?_
                  rw [hdrop, hdrop2]
                  simp [strStep, c92, hu, c117]
                have hfs := unesc_none hu c117
                obtain ⟨eb, heb⟩ : ∃ eb, eb = s.T[q + 1]'hq2 := ⟨_, rfl⟩
                rw [← heb] at hn hfs
                have HN := Lib.hid hn
                have HE1 := Lib.hid hE1
                clear hdrop hdrop2 c34 c92 hu c117 hn heb hE1
                obtain ⟨k1, k2, k3, k4, k5, k6, k7, k8, k9⟩ := hfs
                go_wp2
                go_step3
                go_wp2_with (first | (go_at_call 47; refine (HN.out).mono ?_; rintro e w2 ⟨rfl, h6, h7⟩; have H6 := Lib.hid h6; have H7 := Lib.hid h7; clear h6 h7))
                go_step3
                go_wp2_with (first | (go_at_call 54; refine (errors_new _ _).mono ?_; rintro e w3 ⟨rfl, rfl⟩))
                rw [Exit.noGoto_ret]
                go_wp2
                rw [Exit.noGoto_ret]
                go_ret2
                rw [HE1.out]
                exact ⟨⟨_, rfl⟩, ((HF.out.trans H5.out).trans H7.out).alloc _⟩
          · have hqe : q + 1 = s.T.length := by omega
            have hE1 : E = .err := by
              refine strRun_err HR.out hne ?_
              rw [hdrop, hqe, List.drop_length]
              simp [strStep, c92]
            have HQ := Lib.hid hqe
            have HE1 := Lib.hid hE1
            clear hqe hE1 hdrop c34 c92
            go_wp2
            go_step3
            go_wp2_with (first | (go_at_call 47; refine (H4.out.end1 (by omega) HQ.out).mono ?_; rintro e w2 ⟨rfl, h6, h7⟩; have heof := h6.eof; have H6 := Lib.hid h6; have H7 := Lib.hid h7; clear h6 h7) | (go_at_call 49; refine (is_same _ _).mono ?_; rintro e w3 ⟨rfl, rfl⟩) | (go_at_call 54; refine (errors_new _ _).mono ?_; rintro e w3 ⟨rfl, rfl⟩))
            rw [Exit.noGoto_ret]
            go_wp2
            rw [Exit.noGoto_ret]
            go_ret2
            rw [HE1.out]
            exact ⟨⟨_, rfl⟩, ((HF.out.trans H5.out).trans H7.out).alloc _⟩
        · have h92 : (((s.T[q]'hq).toNat : Int) == 92) = false := by
            simp only [beq_eq_false_iff_ne, ne_eq]
            intro h
            exact c92 (UInt8.toNat_inj.1 (by show _ = 92; omega))
          obtain ⟨f', hrun⟩ := strRun_more (x := [s.T[q]'hq]) (r := s.T.drop (q + 1)) HR.out hne (by rw [hdrop]; simp [strStep, c34, c92])
          obtain ⟨cb, hcb⟩ : ∃ cb, cb = s.T[q]'hq := ⟨_, rfl⟩
          rw [← hcb] at hn h34 h92 hrun hc255
          have HN := Lib.hid hn
          have HRUN := Lib.hid hrun
          clear hdrop hn c34 c92 hrun hcb
          go_wp2_with (first | (go_at_call 47; refine (HN.out).mono ?_; rintro e w1 ⟨rfl, h4, h5⟩; have hb := buf_read HL.out HB.out h5; have H4 := Lib.hid h4; have H5 := Lib.hid h5; have HB1 := Lib.hid hb; clear h4 h5 hb))
          go_step3
          go_wp2_with (first | (go_at_call 60; refine (Tryz.Buffer_WriteByte_k _ _ _ _ _ HB1.out ?_ (byteCells_oneCell _) ?_).mono ?_; have := HF.out.size; have := H5.out.size; omega; rw [byteCells_length]; omega; rintro e w2 ⟨rfl, hb2, hbel, hoth⟩; have HB2 := Lib.hid hb2; have HBEL := Lib.hid hbel; clear hb2 hbel hoth))
          rw [Exit.noGoto_normal]
          go_wp2
          go_roundg (s.T.length - (q + 1))
          case measure => omega
          case rel => exact ⟨q + 1, acc ++ [cb], rfl, Sc.Str.round HL.out hz HF.out hlen H4.out H5.out HB2.out HBEL.out (by simp) (by omega) ⟨_, HRUN.out⟩⟩
    · have hqe : q = s.T.length := by omega
      have hE1 : E = .err := by
        refine strRun_err HR.out hne ?_
        rw [hqe, List.drop_length]
        rfl
      have HQ := Lib.hid hqe
      have HE1 := Lib.hid hE1
      clear hqe hE1
      go_wp2_with (first | (go_at_call 47; refine (HS.out.end1 hz HQ.out).mono ?_; rintro e w1 ⟨rfl, h4, h5⟩; have heof := h4.eof; have H4 := Lib.hid h4; have H5 := Lib.hid h5; clear h4 h5) | (go_at_call 49; refine (is_same _ _).mono ?_; rintro e w2 ⟨rfl, rfl⟩) | (go_at_call 54; refine (errors_new _ _).mono ?_; rintro e w3 ⟨rfl, rfl⟩))
      rw [Exit.noGoto_ret]
      go_ret2
      rw [HE1.out]
      exact ⟨⟨_, rfl⟩, (HF.out.trans H5.out).alloc _⟩

end Go.Proofs.YtdabllkphibfmaaGreatDoor
