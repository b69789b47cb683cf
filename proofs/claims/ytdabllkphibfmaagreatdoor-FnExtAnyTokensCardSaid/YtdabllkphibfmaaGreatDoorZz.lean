/- ZzTokens, by its contract. -/
import Derived.Test.YtdabllkphibfmaaGreatDoorTok
import Derived.Deep.AppendLies
namespace Go.Proofs.YtdabllkphibfmaaGreatDoor
open Go Go.RowKit

theorem info61 : (Tryz.prog.info? 61).map (fun i => (i.zero, i.size, i.bytes)) = some (some (.agg #[.int .u8 0, .nilIface, .int .i64 0]), 3, 32) := by kernel_rfl

/-- A token, as its cells. -/
def tokCells (x : Nat × TV × Nat) : List Value := [.int .u8 x.1, x.2.1.val, .int .i64 x.2.2]

theorem TV.oneCell (v : TV) : v.val.oneCell' = true := by cases v <;> rfl

theorem TV.shape (v : TV) : v.val = .nilIface ∨ ∃ t y, v.val = .iface t y := by cases v <;> simp [TV.val]

theorem tokCells_oneCell (x : Nat × TV × Nat) : ∀ v ∈ tokCells x, v.oneCell' = true := by
  intro v hv
  simp only [tokCells, List.mem_cons, List.not_mem_nil, or_false] at hv
  rcases hv with rfl | rfl | rfl
  · rfl
  · exact TV.oneCell _
  · rfl

theorem newReader (ao : Option Addr) (n c : Nat) (w : World) : Calls Tryz.prog 34 #[.slice ao n c] w fun e w' => e = .returned (.pointer (some ⟨w.heap.size, 0, none⟩)) ∧ w.alloc (.cells #[.slice ao n c, .int .i64 0, .int .i64 (-1)] 116) = w' := by
  go_enter Tryz.func34, Tryz.ntmps34
  go_wp2
  go_ret
  exact ⟨rfl, rfl⟩

theorem ownBlock_at {w : World} {base e size n : Nat} {v : Value} {xs : List Value} (h : w.ownsRow base e size v n xs) : ∀ k, v.ownBlock = some k → base ≤ k ∧ ∃ cur, w.heap[k]? = some (.cells cur e (0, 0)) := by
  intro k hk
  rcases h.2 with ⟨rfl, _⟩ | ⟨g, cap, cur, rfl, hb, hh, _⟩
  · simp [Value.ownBlock] at hk
  · simp only [Value.ownBlock, Option.some.injEq] at hk
    subst hk
    exact ⟨hb, cur, hh⟩

theorem ownsRow_of {w w' : World} {base e size n : Nat} {v : Value} {xs : List Value} (h : w.ownsRow base e size v n xs) (hk : ∀ k, v.ownBlock = some k → w'.heap[k]? = w.heap[k]?) : w'.ownsRow base e size v n xs := by
  refine ⟨h.1, ?_⟩
  rcases h.2 with hn | ⟨g, cap, cur, rfl, hb, hh, hr⟩
  · exact .inl hn
  · exact .inr ⟨g, cap, cur, rfl, hb, (hk g rfl).trans hh, hr⟩

/-- A row of tokens is none of the scanner's blocks. -/
theorem Sc.St.row_apart {s : Sc} {g : Option Nat} {q p : Nat} {w : World} (h : s.St g q p w) {base n : Nat} {v : Value} {xs : List Value} (ho : w.ownsRow base 61 3 v n xs) (hb : 1 < base) {k : Nat} (hk : v.ownBlock = some k) : ∀ i, s.own g i → i ≠ k := by
  obtain ⟨hbk, cur, hc⟩ := ownBlock_at ho k hk
  obtain ⟨bv, ev, hj⟩ := h.js
  unfold Js at hj
  rintro i hi rfl
  rcases hi with rfl | rfl | rfl | rfl | hg
  · omega
  · obtain ⟨c, f, h1, _⟩ := h.row
    rw [hc] at h1; simp at h1
  · rw [hc] at hj; simp at hj
  · have hr : ∃ i, Rd w s.r s.t s.T.length s.tc i := by
      rcases h.at_ with ⟨_, _, _, d, _⟩ | ⟨x, a, m, _, _, _, _, _, _, _, _, k, _, _⟩ | ⟨x, _, _, _, c, _, d⟩
      · exact ⟨_, d⟩
      · exact ⟨_, k⟩
      · exact ⟨_, d⟩
    obtain ⟨i, pr, hr⟩ := hr
    rw [hc] at hr; simp at hr
  · have hb : ∃ bs, Buf w i bs := by
      rcases h.at_ with ⟨a, _⟩ | ⟨y, a, m, hy, _, _, _, _, _, _, _, _, _, n⟩ | ⟨y, hy, _, _, _, n, _⟩
      · rw [a] at hg; cases hg
      · obtain rfl : i = y := by rw [hy] at hg; injection hg
        exact ⟨_, n⟩
      · obtain rfl : i = y := by rw [hy] at hg; injection hg
        exact ⟨_, n⟩
    obtain ⟨bs, cur', h1, _⟩ := hb
    rw [hc] at h1; simp at h1

/-- The state between two tokens: f more rounds give rest. -/
structure Sc.Zs (s : Sc) (num lit : UInt8 → List UInt8 → SubEnd) (w : World) (ts : List (Nat × TV × Nat)) (ok : Bool) (f : Nat) (v : Value) (wx : World) : Prop where
  run : ∃ done rest q, q ≤ s.T.length ∧ ts = done ++ rest ∧ toks num lit s.T.length f (s.T.drop q) = some (rest, ok) ∧ (∃ g p, s.St g q p wx ∧ (∀ x, g = some x → w.heap.size ≤ x)) ∧ wx.ownsRow w.heap.size 61 3 v done.length (done.flatMap tokCells) ∧ Below w.heap.size w wx

/-- What ZzTokens gives. -/
def ZzPost (B : Nat) (w : World) (ts : List (Nat × TV × Nat)) (ok : Bool) (e : Ending) (w' : World) : Prop :=
  ∃ v ev, e = .returned (.tuple #[v, ev]) ∧ w'.ownsRow B 61 3 v ts.length (ts.flatMap tokCells) ∧ (if ok = true then ev = .nilIface else ∃ t y, ev = .iface t y) ∧ Below B w w'

set_option maxRecDepth 1000000 in
set_option maxHeartbeats 4000000 in
theorem zzTokens {num lit : UInt8 → List UInt8 → SubEnd} (T : List UInt8) (t tc : Nat) (ea : Addr) (w0 w : World) (hold : Old w0 w) (hrow : Row w t T) (heof : w.cell? ⟨1, 0, none⟩ = some (EOFv ea)) (hn : T.length ≤ tc) (hT : T.length ≤ 1000000)
    (hnum : (Sc.mk T t tc (w.heap.size + 1) w.heap.size ea).SubC w0 52 num) (hlit : (Sc.mk T t tc (w.heap.size + 1) w.heap.size ea).SubC w0 53 lit) (f : Nat) (ts : List (Nat × TV × Nat)) (ok : Bool) (hts : ts.length ≤ 1000000) (hk12 : ∀ x ∈ ts, x.1 < 12) (hrun : toks num lit T.length f T = some (ts, ok)) :
    Calls Tryz.prog 18 #[.slice (some ⟨t, 0, none⟩) T.length tc] w (ZzPost w.heap.size w ts ok) := by
  obtain ⟨i0, hi0, hz0, hz1, hz2⟩ := info_parts info61
  have hw1 : 1 < w.heap.size := World.block_lt_of_cell? w ⟨1, 0, none⟩ heof
  have htw : t < w.heap.size := by obtain ⟨c, fr, h1, _⟩ := hrow; exact lt_of_heap h1
  have HROW := Lib.hid hrow
  have HEOF := Lib.hid heof
  have HNUM := Lib.hid hnum
  have HLIT := Lib.hid hlit
  have HRUN := Lib.hid hrun
  have HOLD := Lib.hid hold
  clear hrow heof hnum hlit hrun hold
  go_enter Tryz.func18, Tryz.ntmps18
  go_wp2_with (first | (go_at_call 34; refine (newReader _ _ _ _).mono ?_; rintro e w1 ⟨rfl, rfl⟩))
  go_loopg [5] f (fun m v wx => Aside ((Sc.mk T t tc (w.heap.size + 1) w.heap.size ea).Zs num lit w ts ok m v wx))
  case atStart =>
    have hs1 : ∀ k, k < w.heap.size → ((w.alloc (.cells #[.slice (some ⟨t, 0, none⟩) T.length tc, .int .i64 0, .int .i64 (-1)] 116)).alloc (.cells #[.iface 86 (.pointer (some ⟨w.heap.size, 0, none⟩)), .slice none 0 0, .int .i64 0, .nilIface] 91)).heap[k]? = w.heap[k]? := by
      intro k hk
      rw [Below.heap_alloc _ _ _ (by simp; omega), Below.heap_alloc _ _ _ hk]
    refine ⟨[], ts, 0, Nat.zero_le _, rfl, by rw [List.drop_zero]; exact HRUN.out, ⟨none, 0, ⟨?_, ?_, hn, Nat.le_trans hT (by omega), ⟨?_, ?_, ?_⟩, .inl ⟨rfl, rfl, rfl, ?_, ?_⟩⟩, ?_⟩, World.ownsRow_nil _ _ _ _, ((Below.refl _ w).alloc (Nat.le_refl _) _).alloc (by simp) _⟩
    · exact HROW.out.of_heap (hs1 t htw)
    · exact (World.cell?_of_block (a := ⟨1, 0, none⟩) (hs1 1 hw1)).trans HEOF.out
    · show w.heap.size + 1 ≠ 1; omega
    · show w.heap.size ≠ 1; omega
    · rintro x hx; cases hx
    · exact ⟨-1, (Below.heap_alloc _ _ _ (by simp)).trans (heap_alloc_new w _)⟩
    · have := heap_alloc_new (w.alloc (.cells #[.slice (some ⟨t, 0, none⟩) T.length tc, .int .i64 0, .int .i64 (-1)] 116)) (.cells #[.iface 86 (.pointer (some ⟨w.heap.size, 0, none⟩)), .slice none 0 0, .int .i64 0, .nilIface] 91)
      simpa [Js] using this
    · rintro x hx; cases hx
  case round =>
    obtain ⟨s, hs⟩ : ∃ s, s = Sc.mk T t tc (w.heap.size + 1) w.heap.size ea := ⟨_, rfl⟩
    have hsj : s.j = w.heap.size + 1 := by rw [hs]
    have hsT : s.T = T := by rw [hs]
    have hsr : s.r = w.heap.size := by rw [hs]
    rw [← hs] at hrel HNUM HLIT
    obtain ⟨done, rest, q, hq, hts2, hrun, ⟨g, p, hst, hgb⟩, hown, hbel⟩ := hrel.out.run
    clear hrel
    obtain ⟨f', rfl⟩ : ∃ f', gk = f' + 1 := by
      cases gk with
      | zero => simp [toks] at hrun
      | succ f' => exact ⟨f', rfl⟩
    have hne : ∀ c r, (s.T.drop q).dropWhile isBlank = c :: r → tokAt num lit c r ≠ .out := by
      intro c r hcr ho
      simp [toks, hcr, ho] at hrun
    have hos := HOLD.out.size
    have hnx := hst.nextToken (by rw [hsT]; exact hT) HNUM.out HLIT.out (HOLD.out.below hbel hos) (by
      rintro k (h | h | h)
      · omega
      · omega
      · have := hgb k h.symm; omega) hq hne
    clear hos
    have hfrB : ∀ w', Fr (s.S g) wr w' → Below w.heap.size wr w' := fun w' h => h.below (by
      rintro k hk (h | h | h)
      · omega
      · omega
      · have := hgb k h.symm; omega) hbel.size
    cases hdw : (s.T.drop q).dropWhile isBlank with
    | nil =>
      have hr : rest = [] ∧ ok = true := by
        simp only [toks, hdw, Option.some.injEq, Prod.mk.injEq] at hrun
        exact ⟨hrun.1.symm, hrun.2.symm⟩
      obtain ⟨rfl, rfl⟩ := hr
      rw [hdw, hsj] at hnx
      have HNX := Lib.hid hnx
      have HTS := Lib.hid hts2
      have HOWN := Lib.hid hown
      have HB := Lib.hid hbel
      have HFB := Lib.hid hfrB
      have HST := Lib.hid hst
      clear hnx hts2 hown hbel hfrB hst hne hdw hrun hsj hsT hsr hs
      go_wp2_with (first | (go_at_call 35; refine (HNX.out).mono ?_; rintro e w1 ⟨b, rfl, hb1, hb2, hb3⟩; obtain ⟨k0, k1, k2, kf⟩ := cell3 hb2; have HB3 := Lib.hid hb3; clear hb1 hb2 hb3 kf))
      go_ret2
      refine ⟨_, _, rfl, ?_, by simp, HB.out.trans (HFB.out _ HB3.out)⟩
      rw [HTS.out, List.append_nil]
      exact ownsRow_of HOWN.out fun k hk => HB3.out.block k (lt_of_heap (ownBlock_at HOWN.out k hk).2.choose_spec) fun hS => HST.out.row_apart HOWN.out hw1 hk k (Sc.own_of_S hS) rfl
    | cons c r =>
      cases hta : tokAt num lit c r with
      | out => exact absurd hta (hne c r hdw)
      | err =>
        have hr : rest = [] ∧ ok = false := by
          simp only [toks, hdw, hta, Option.some.injEq, Prod.mk.injEq] at hrun
          exact ⟨hrun.1.symm, hrun.2.symm⟩
        obtain ⟨rfl, rfl⟩ := hr
        rw [hdw, hsj] at hnx
        have HTA := Lib.hid hta
        have HNX := Lib.hid hnx
        have HTS := Lib.hid hts2
        have HOWN := Lib.hid hown
        have HB := Lib.hid hbel
        have HFB := Lib.hid hfrB
        have HST := Lib.hid hst
        clear hnx hts2 hown hbel hfrB hst hne hdw hta hrun hsj hsT hsr hs
        go_wp2_with (first | (go_at_call 35; refine (HNX.out).mono ?_; rintro e w1 hnp; simp only [Sc.NextPost, HTA.out] at hnp; obtain ⟨⟨te, ye, rfl⟩, hb3⟩ := hnp; have HB3 := Lib.hid hb3; clear hb3))
        go_ret2
        refine ⟨_, _, rfl, ?_, by simp, HB.out.trans (HFB.out _ HB3.out)⟩
        rw [HTS.out, List.append_nil]
        exact ownsRow_of HOWN.out fun k hk => HB3.out.block k (lt_of_heap (ownBlock_at HOWN.out k hk).2.choose_spec) fun hS => HST.out.row_apart HOWN.out hw1 hk k (Sc.own_of_S hS) rfl
      | tok k v r' =>
        obtain ⟨rest', hrun', hre⟩ : ∃ rest', toks num lit s.T.length f' r' = some (rest', ok) ∧ rest = (k, v, (s.T.length - (r.length + 1)) % 512) :: rest' := by
          simp only [toks, hdw, hta, Option.map_eq_some_iff] at hrun
          obtain ⟨⟨x1, x2⟩, h1, h2⟩ := hrun
          simp only [Prod.mk.injEq] at h2
          obtain ⟨h3, rfl⟩ := h2
          exact ⟨x1, h1, h3.symm⟩
        have hk12' : k < 12 := hk12 (k, v, (s.T.length - (r.length + 1)) % 512) (by rw [hts2, hre]; simp)
        have hlen : done.length + 1 ≤ 1000000 := by
          have := congrArg List.length hts2
          rw [hre] at this
          simp at this
          omega
        have n12 : ((k : Int) == 12) = false := by simp only [beq_eq_false_iff_ne, ne_eq]; omega
        rw [hdw, hsj] at hnx
        have HTA := Lib.hid hta
        obtain ⟨pp, hpp⟩ : ∃ pp, pp = (s.T.length - (r.length + 1)) % 512 := ⟨_, rfl⟩
        rw [← hpp] at hre
        have HPP := Lib.hid hpp
        have HNX := Lib.hid hnx
        have HTS := Lib.hid hts2
        have HRE := Lib.hid hre
        have HRUN' := Lib.hid hrun'
        have HOWN := Lib.hid hown
        have HB := Lib.hid hbel
        have HFB := Lib.hid hfrB
        have HST := Lib.hid hst
        have HSJ := Lib.hid hsj
        have HSS := Lib.hid (And.intro hs (And.intro hsT hsr))
        clear hnx hts2 hown hbel hfrB hst hne hdw hta hrun hsj hsT hsr hs hre hrun' hpp
        obtain ⟨V, hV⟩ : ∃ V, V = v.val := ⟨_, rfl⟩
        have hVs : V = .nilIface ∨ ∃ t y, V = .iface t y := by rw [hV]; exact v.shape
        have HV := Lib.hid hV
        clear hV
        rcases hVs with rfl | ⟨vt, vy, rfl⟩
        · go_wp2_with (first | (go_at_call 35; refine (HNX.out).mono ?_; rintro e w1 hnp; simp only [Sc.NextPost, HTA.out] at hnp; obtain ⟨b, rfl, hb1, hb2, ⟨g', q', p', h4, h5, h6, h7⟩, hb3⟩ := hnp; rw [← HPP.out, ← HV.out] at hb2; obtain ⟨k0, k1, k2, kf⟩ := cell3 hb2; have HB1 := Lib.hid hb1; have HB2 := Lib.hid hb2; have HB3 := Lib.hid hb3; have H4 := Lib.hid h4; have H5 := Lib.hid h5; have H6 := Lib.hid h6; have H7 := Lib.hid h7; clear hb1 hb2 hb3 kf h4 h5 h6 h7))
          have hown1 : w1.ownsRow w.heap.size 61 3 u5 done.length (done.flatMap tokCells) := ownsRow_of HOWN.out fun k hk => HB3.out.block k (lt_of_heap (ownBlock_at HOWN.out k hk).2.choose_spec) fun hS => HST.out.row_apart HOWN.out hw1 hk k (Sc.own_of_S hS) rfl
          have hsz1 : w.heap.size ≤ w1.heap.size := Nat.le_trans HB.out.size HB3.out.size
          have hbn : ∀ k, u5.ownBlock = some k → k ≠ b := by
            rintro k hk rfl
            obtain ⟨_, cur, hc⟩ := ownBlock_at hown1 k hk
            rw [HB2.out] at hc; simp at hc
          have hblt : b < w1.heap.size := lt_of_heap HB2.out
          have HOWN1 := Lib.hid hown1
          have HBN := Lib.hid hbn
          clear hown1 hbn
          go_region_held3 (fun w' => w'.cell? ⟨b, 0, none⟩ = some (.int .u8 k) ∧ w'.cell? ⟨b, 1, none⟩ = some .nilIface ∧ w'.cell? ⟨b, 2, none⟩ = some (.int .i64 pp))
            (first
              | go_keep
              | (go_split_ands
                 refine ⟨?_, ?_, ?_⟩
                 · (rw [hgrow.cell_far _ (by simp; omega) (fun hk => HBN.out _ hk.symm rfl)]; assumption)
                 · (rw [hgrow.cell_far _ (by simp; omega) (fun hk => HBN.out _ hk.symm rfl)]; assumption)
                 · (rw [hgrow.cell_far _ (by simp; omega) (fun hk => HBN.out _ hk.symm rfl)]; assumption)))
            ((refine step_append_lies _ (by rfl) _ _ _ (by rfl) w.heap.size 61 i0 _ 3 32 Tryz.underlying55 hi0 hz0 hz1 hz2 rfl (by omega) u5 done.length (done.flatMap tokCells) (by rfl) ((HOWN1.out.alloc _).drew)
                ⟨w1.heap.size, 0, none⟩ 1 1 [.int .u8 k, .nilIface, .int .i64 pp] (by rfl) (by rfl) (World.news_of_block (cs := #[.int .u8 k, .nilIface, .int .i64 pp]) (t := 61) (fr := (0, 0)) (heap_alloc_new w1 _)) (by simp [Value.oneCell'])
                (by omega) (by unfold maxLen; omega) (by omega) (by simp; omega) (w1.heap.size + 1) (by simp) ?_; intro gg cap w3 hown3 hgrow hat hlt))
          have hown4 : w3.ownsRow w.heap.size 61 3 (.slice (some ⟨gg, 0, none⟩) (done.length + 1) cap) (done ++ [(k, v, pp)]).length ((done ++ [(k, v, pp)]).flatMap tokCells) := by
            rw [List.flatMap_append, List.length_append]
            have e : [(k, v, pp)].flatMap tokCells = [.int .u8 k, .nilIface, .int .i64 pp] := by simp [tokCells, HV.out]
            rw [e]
            exact hown3
          have hst3 : ∀ i, s.own g' i → w3.heap[i]? = w1.heap[i]? := fun i hi => (hgrow.block i (by have := H6.out.lt i hi; simp; omega) (fun hk => H6.out.row_apart HOWN1.out hw1 hk.symm i hi rfl)).trans (Below.heap_alloc w1 _ i (H6.out.lt i hi))
          have hbel3 : Below w.heap.size w w3 := ((((HB.out.trans (HFB.out _ HB3.out)).alloc hsz1 _).drew).grown hgrow (by simp; omega) (by
            intro k hk
            exact (ownBlock_at HOWN1.out k hk).1))
          have hgb3 : ∀ x, g' = some x → w.heap.size ≤ x := by
            rcases H7.out with rfl | ⟨_, y, rfl, hy⟩
            · exact hgb
            · rintro x hx; injection hx with hx; have := HB.out.size; omega
          have H8 := Lib.hid hown4
          have H9 := Lib.hid hst3
          have H10 := Lib.hid hbel3
          clear hown4 hst3 hbel3 hown3 hgrow hat
          go_wp2
          go_roundg f'
          case measure => omega
          case rel =>
            have e := HSS.out.1
            rw [← e]
            refine ⟨done ++ [(k, v, pp)], rest', q', H5.out, ?_, ?_, ⟨g', p', H6.out.of_heap H9.out, hgb3⟩, H8.out, H10.out⟩
            · rw [HTS.out, HRE.out]; simp
            · rw [H4.out]; exact HRUN'.out
        · go_wp2_with (first | (go_at_call 35; refine (HNX.out).mono ?_; rintro e w1 hnp; simp only [Sc.NextPost, HTA.out] at hnp; obtain ⟨b, rfl, hb1, hb2, ⟨g', q', p', h4, h5, h6, h7⟩, hb3⟩ := hnp; rw [← HPP.out, ← HV.out] at hb2; obtain ⟨k0, k1, k2, kf⟩ := cell3 hb2; have HB1 := Lib.hid hb1; have HB2 := Lib.hid hb2; have HB3 := Lib.hid hb3; have H4 := Lib.hid h4; have H5 := Lib.hid h5; have H6 := Lib.hid h6; have H7 := Lib.hid h7; clear hb1 hb2 hb3 kf h4 h5 h6 h7))
          have hown1 : w1.ownsRow w.heap.size 61 3 u5 done.length (done.flatMap tokCells) := ownsRow_of HOWN.out fun k hk => HB3.out.block k (lt_of_heap (ownBlock_at HOWN.out k hk).2.choose_spec) fun hS => HST.out.row_apart HOWN.out hw1 hk k (Sc.own_of_S hS) rfl
          have hsz1 : w.heap.size ≤ w1.heap.size := Nat.le_trans HB.out.size HB3.out.size
          have hbn : ∀ k, u5.ownBlock = some k → k ≠ b := by
            rintro k hk rfl
            obtain ⟨_, cur, hc⟩ := ownBlock_at hown1 k hk
            rw [HB2.out] at hc; simp at hc
          have hblt : b < w1.heap.size := lt_of_heap HB2.out
          have HOWN1 := Lib.hid hown1
          have HBN := Lib.hid hbn
          clear hown1 hbn
          go_region_held3 (fun w' => w'.cell? ⟨b, 0, none⟩ = some (.int .u8 k) ∧ w'.cell? ⟨b, 1, none⟩ = some (.iface vt vy) ∧ w'.cell? ⟨b, 2, none⟩ = some (.int .i64 pp))
            (first
              | go_keep
              | (go_split_ands
                 refine ⟨?_, ?_, ?_⟩
                 · (rw [hgrow.cell_far _ (by simp; omega) (fun hk => HBN.out _ hk.symm rfl)]; assumption)
                 · (rw [hgrow.cell_far _ (by simp; omega) (fun hk => HBN.out _ hk.symm rfl)]; assumption)
                 · (rw [hgrow.cell_far _ (by simp; omega) (fun hk => HBN.out _ hk.symm rfl)]; assumption)))
            ((refine step_append_lies _ (by rfl) _ _ _ (by rfl) w.heap.size 61 i0 _ 3 32 Tryz.underlying55 hi0 hz0 hz1 hz2 rfl (by omega) u5 done.length (done.flatMap tokCells) (by rfl) ((HOWN1.out.alloc _).drew)
                ⟨w1.heap.size, 0, none⟩ 1 1 [.int .u8 k, (.iface vt vy), .int .i64 pp] (by rfl) (by rfl) (World.news_of_block (cs := #[.int .u8 k, (.iface vt vy), .int .i64 pp]) (t := 61) (fr := (0, 0)) (heap_alloc_new w1 _)) (by simp [Value.oneCell'])
                (by omega) (by unfold maxLen; omega) (by omega) (by simp; omega) (w1.heap.size + 1) (by simp) ?_; intro gg cap w3 hown3 hgrow hat hlt))
          have hown4 : w3.ownsRow w.heap.size 61 3 (.slice (some ⟨gg, 0, none⟩) (done.length + 1) cap) (done ++ [(k, v, pp)]).length ((done ++ [(k, v, pp)]).flatMap tokCells) := by
            rw [List.flatMap_append, List.length_append]
            have e : [(k, v, pp)].flatMap tokCells = [.int .u8 k, (.iface vt vy), .int .i64 pp] := by simp [tokCells, HV.out]
            rw [e]
            exact hown3
          have hst3 : ∀ i, s.own g' i → w3.heap[i]? = w1.heap[i]? := fun i hi => (hgrow.block i (by have := H6.out.lt i hi; simp; omega) (fun hk => H6.out.row_apart HOWN1.out hw1 hk.symm i hi rfl)).trans (Below.heap_alloc w1 _ i (H6.out.lt i hi))
          have hbel3 : Below w.heap.size w w3 := ((((HB.out.trans (HFB.out _ HB3.out)).alloc hsz1 _).drew).grown hgrow (by simp; omega) (by
            intro k hk
            exact (ownBlock_at HOWN1.out k hk).1))
          have hgb3 : ∀ x, g' = some x → w.heap.size ≤ x := by
            rcases H7.out with rfl | ⟨_, y, rfl, hy⟩
            · exact hgb
            · rintro x hx; injection hx with hx; have := HB.out.size; omega
          have H8 := Lib.hid hown4
          have H9 := Lib.hid hst3
          have H10 := Lib.hid hbel3
          clear hown4 hst3 hbel3 hown3 hgrow hat
          go_wp2
          go_roundg f'
          case measure => omega
          case rel =>
            have e := HSS.out.1
            rw [← e]
            refine ⟨done ++ [(k, v, pp)], rest', q', H5.out, ?_, ?_, ⟨g', p', H6.out.of_heap H9.out, hgb3⟩, H8.out, H10.out⟩
            · rw [HTS.out, HRE.out]; simp
            · rw [H4.out]; exact HRUN'.out

end Go.Proofs.YtdabllkphibfmaaGreatDoor
