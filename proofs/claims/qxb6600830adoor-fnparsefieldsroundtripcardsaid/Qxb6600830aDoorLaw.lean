/-
  Seat b6600830aD: ParseFields at the empty list; the walk of the law FnParseFieldsRoundTrip.
-/
import Derived.Test.Qxb6600830aDoorParse2
import Derived.Test.Qxb6600830aDoorFmt
import Derived.Test.Qxb6600830aDoorNames
namespace Go.Proofs.Qxb6600830aDoor
open Go.RowKit Go.Shelf

set_option maxHeartbeats 1000000 in
theorem parse_empty (w : World) (T : Tabs w) : Calls Tryd.prog 9 #[.string ⟨#[]⟩] w fun e w' => RetParse [] [] w e w' := by
  have hbA : Below w.heap.size w ((w.alloc (.cells #[.slice none 0 0, .slice none 0 0] 29)).alloc (.cells #[.slice none 0 0, .slice none 0 0] 29)) := ((Below.refl _ w).alloc (Nat.le_refl _) _).alloc (by simp) _
  have pR : Pair ((w.alloc (.cells #[.slice none 0 0, .slice none 0 0] 29)).alloc (.cells #[.slice none 0 0, .slice none 0 0] 29)) w.heap.size (.slice none 0 0) (.slice none 0 0) :=
    (Below.heap_alloc _ _ _ (by simp)).trans (World.alloc_heap_new w _)
  have pF : Pair ((w.alloc (.cells #[.slice none 0 0, .slice none 0 0] 29)).alloc (.cells #[.slice none 0 0, .slice none 0 0] 29)) (w.heap.size + 1) (.slice none 0 0) (.slice none 0 0) := by
    have := World.alloc_heap_new (w.alloc (.cells #[.slice none 0 0, .slice none 0 0] 29)) (.cells #[.slice none 0 0, .slice none 0 0] 29)
    rwa [World.size_alloc] at this
  have TA := T.below hbA
  go_enter Tryd.func9, Tryd.ntmps9
  go_wp2_with fail
  refine (trimSp_any ⟨#[]⟩ _ TA (by decide) ⟨#[]⟩ (by decide)).mono ?_
  rintro e W1 ⟨rfl, hb1⟩
  have pR1 := pair_below pR hb1
  have pF1 := pair_below pF hb1
  have hbW1 : Below w.heap.size w W1 := hbA.trans (hb1.mono (by simp; omega))
  have c0 := pF1.cell0
  have c1 := pF1.cell1
  have r0 := pR1.cell0
  have r1 := pR1.cell1
  have f0 := pR1.frozen 0
  have f1 := pR1.frozen 1
  clear pR pF hb1 hbA TA
  go_wp2_with fail
  clear c0 c1 r0 r1 f0 f1
  have pR2 := (pR1.set0 (.slice none 0 0)).set1 (.slice none 0 0)
  have hb2 := (hbW1.setCell (p := ⟨w.heap.size, 0, none⟩) (Nat.le_refl _) (.slice none 0 0)).setCell (p := ⟨w.heap.size, 1, none⟩) (Nat.le_refl _) (.slice none 0 0)
  have q0 := pR2.cell0
  have q1 := pR2.cell1
  generalize (W1.setCell ⟨w.heap.size, 0, none⟩ (.slice none 0 0)).setCell ⟨w.heap.size, 1, none⟩ (.slice none 0 0) = W2 at *
  exact bodyPost_ret (v := .agg #[.slice none 0 0, .slice none 0 0]) (by simp [results, Tryd.results9, go_sem, q0, q1]) rfl ⟨_, _, 0, rfl, World.ownsRow_nil _ _ _ _, World.ownsRow_nil _ _ _ _, hb2⟩

/-- A name of the first list, as the law asks it. -/
def GoodO (s : ByteArray) : Prop := Clean s.data.toList ∧ s.data.toList.head? ≠ some 45

theorem clean_pos {s : ByteArray} (h : Clean s.data.toList) : 0 < s.size := by
  have h1 := List.length_pos_iff.2 h.ne
  rw [← Lib.size_eq] at h1
  exact h1
theorem head_at {s : ByteArray} (h : 0 < s.size) : s.data.toList.head? = some (s[0]'h) := by
  rw [List.head?_eq_getElem?]
  have : 0 < s.data.toList.length := by rw [← Lib.size_eq]; exact h
  rw [List.getElem?_eq_getElem this]
  rfl

theorem size_le_sumL : ∀ (xs : List ByteArray) (j : Nat), j < xs.length → (xs[j]?.getD ByteArray.empty).size ≤ sumL xs
  | [], j, h => absurd h (by simp)
  | x :: xs, 0, _ => by simp [sumL]
  | x :: xs, j + 1, h => by
    have ih := size_le_sumL xs j (by simpa using h)
    simp only [List.getElem?_cons_succ]
    unfold sumL at ih ⊢
    rw [List.map_cons, List.sum_cons]
    omega

theorem bdrewN {B : Nat} {a w : World} (h : Below B a w) (n : Nat) : Below B a (w.drewN n) := h.trans ⟨rfl, rfl, rfl, Nat.le_refl _, fun _ _ => rfl⟩

/-- What ParseFields hands back at a list that zzFormatFields wrote. -/
def RetFields (xs ys : List ByteArray) (w : World) (e : Ending) (w' : World) : Prop :=
  ∃ au cu av cv, e = .returned (.agg #[.slice au xs.length cu, .slice av ys.length cv]) ∧ StrAt w'.heap.size w' au xs ∧ StrAt w'.heap.size w' av ys ∧ Below w.heap.size w w'

theorem strAt_own {W : World} {base : Nat} {a : Option Addr} {c : Nat} {xs : List ByteArray} (h : W.ownsRow base 9 1 (.slice a xs.length c) xs.length ((xs.map (·.data.toList)).map strV)) : StrAt W.heap.size W a xs := by
  intro j hj
  rcases h.2 with ⟨h1, h0⟩ | ⟨g, cap, cur, hv, _, _⟩
  · omega
  · cases hv
    refine ⟨g, 0, rfl, (h.lt g rfl).2, ?_⟩
    have h1 := h.cellAt j (by omega)
    rw [Nat.zero_add, h1]
    simp [hj, strV, baOf_data]

theorem retFields_of {xs ys : List ByteArray} {w w' : World} {e : Ending} (h : RetParse (xs.map (·.data.toList)) (ys.map (·.data.toList)) w e w') : RetFields xs ys w e w' := by
  obtain ⟨u, v, base, rfl, hu, hv, hb⟩ := h
  rw [List.length_map] at hu hv
  obtain ⟨au, cu, rfl⟩ := own_slice hu
  obtain ⟨av, cv, rfl⟩ := own_slice hv
  exact ⟨au, cu, av, cv, rfl, strAt_own hu, strAt_own hv, hb⟩

theorem fmt_len (xs ys : List ByteArray) (h : xs.length + sumL xs + ys.length + sumL ys ≤ 1048576) : (fmtAll (xs.map (·.data.toList)) (ys.map (·.data.toList))).length ≤ 4194304 := by
  have := J2_le xs ys ys.length
  rw [J2_all] at this
  omega

theorem all_of {p : ByteArray → Prop} {xs : List ByteArray} (h : ∀ j, j < xs.length → p (xs[j]?.getD ByteArray.empty)) : ∀ x ∈ xs, p x := by
  intro x hx
  obtain ⟨j, hj, rfl⟩ := List.getElem_of_mem hx
  have := h j hj
  simpa [hj] using this

theorem parse_fmt (xs ys : List ByteArray) (w : World) (T : Tabs w) (hsz : xs.length + sumL xs + ys.length + sumL ys ≤ 1048576) (hx : ∀ j, j < xs.length → GoodO (xs[j]?.getD ByteArray.empty)) (hy : ∀ j, j < ys.length → Clean (ys[j]?.getD ByteArray.empty).data.toList)
    (hns : fmtAll (xs.map (·.data.toList)) (ys.map (·.data.toList)) ≠ [42]) :
    Calls Tryd.prog 9 #[.string ⟨(fmtAll (xs.map (·.data.toList)) (ys.map (·.data.toList))).toArray⟩] w fun e w' => RetFields xs ys w e w' := by
  have hX : ∀ x ∈ xs.map (·.data.toList), Clean x := fun x h => by
    obtain ⟨s, hs, rfl⟩ := List.mem_map.1 h
    exact (all_of hx s hs).1
  have hD : ∀ x ∈ xs.map (·.data.toList), x.head? ≠ some 45 := fun x h => by
    obtain ⟨s, hs, rfl⟩ := List.mem_map.1 h
    exact (all_of hx s hs).2
  have hY : ∀ y ∈ ys.map (·.data.toList), Clean y := fun x h => by
    obtain ⟨s, hs, rfl⟩ := List.mem_map.1 h
    exact all_of (p := fun s => Clean s.data.toList) hy s hs
  have hl := fmt_len xs ys hsz
  by_cases hne : xs.map (·.data.toList) ++ (ys.map (·.data.toList)).map (45 :: ·) = []
  · have h1 : xs = [] := by simpa using (List.append_eq_nil_iff.1 hne).1
    have h2 : ys = [] := by simpa using (List.append_eq_nil_iff.1 hne).2
    subst h1; subst h2
    exact (parse_empty w T).mono fun e w' h => retFields_of h
  · obtain ⟨r1, r2, r3, r4⟩ := round_trip _ _ hX hD hY hne
    generalize hF : fmtAll (xs.map (·.data.toList)) (ys.map (·.data.toList)) = f at *
    have hf1 : (baOf f).toList = f := by rw [ByteArray.toList_eq]; rfl
    refine (parse_any (baOf f) w (by rw [baOf_size]; exact hl) T (baOf f) (by rw [baOf_toList, r1]) (by rw [baOf_size]; exact hl) (by rw [hf1]; simpa using r2) (by rw [hf1]; simpa using hns)).mono fun e w' h => retFields_of ?_
    rw [baOf_toList, r3, r4] at h
    exact h

theorem not_star (xs ys : List ByteArray) (hx : ∀ j, j < xs.length → GoodO (xs[j]?.getD ByteArray.empty)) (hy : ∀ j, j < ys.length → Clean (ys[j]?.getD ByteArray.empty).data.toList) (h : ¬ (xs.length = 1 ∧ ys.length = 0)) : fmtAll (xs.map (·.data.toList)) (ys.map (·.data.toList)) ≠ [42] := by
  intro e
  obtain ⟨h1, h2⟩ := fmt_star _ _ (fun x hm => by
    obtain ⟨s, hs, rfl⟩ := List.mem_map.1 hm
    exact (all_of hx s hs).1) (fun x hm => by
    obtain ⟨s, hs, rfl⟩ := List.mem_map.1 hm
    exact all_of (p := fun s => Clean s.data.toList) hy s hs) e
  exact h ⟨by have := congrArg List.length h1; simpa using this, by have := congrArg List.length h2; simpa using this⟩

def Ret (w : World) (e : Ending) (w' : World) : Prop := e = .returned (.bool true) ∧ Below w.heap.size w w'

set_option maxRecDepth 100000 in
set_option maxHeartbeats 2000000 in
theorem law_any (a a2 : Option Addr) (xs ys : List ByteArray) (c c2 : Nat) (w : World) (T : Tabs w) (hx : StrAt w.heap.size w a xs) (hy : StrAt w.heap.size w a2 ys) (hxl : xs.length ≤ 9223372036854775807) (hyl : ys.length ≤ 9223372036854775807)
    (hn1 : a = none → xs.length = 0) (hn2 : a2 = none → ys.length = 0) :
    Calls Tryd.prog 3 #[.slice a xs.length c, .slice a2 ys.length c2] w fun e w' => Ret w e w' := by
  go_enter Tryd.func3, Tryd.ntmps3
  go_wp2_with fail
  refine (bytes_any w.heap.size a a2 xs ys c c2 w hx hy hxl hyl).mono ?_
  rintro e w1 ⟨b, rfl, hsz0, rfl⟩
  cases b with
  | false =>
    go_wp2_with fail
    go_ret
    exact ⟨rfl, Below.refl _ _⟩
  | true =>
    have hsz := hsz0 rfl
    clear hsz0
    go_wp2_with fail
    refine (sliceBytes_any w1.heap.size a xs c 1048576 w1 hx hxl (Nat.le_refl _)).mono ?_
    rintro e w2 ⟨n, rfl, hn, rfl⟩
    by_cases hgt : 1048576 < n
    · go_wp2_with fail
      go_ret
      exact ⟨rfl, Below.refl _ _⟩
    · go_wp2_with fail
      rw [show ((1048576 : Int) - (n : Int)) = ((1048576 - n : Nat) : Int) from by omega]
      refine (sliceBytes_any w2.heap.size a2 ys c2 (1048576 - n) w2 hy hyl (by omega)).mono ?_
      rintro e w3 ⟨m, rfl, hm, rfl⟩
      by_cases hgt2 : 1048576 - n < m
      · go_wp2_with fail
        go_ret
        exact ⟨rfl, Below.refl _ _⟩
      · go_wp2_with fail
        refine (clone_any w3.heap.size a xs c w3 hx (Nat.le_refl _) (by omega) hn1).mono ?_
        rintro e wa ⟨b1, d1, rfl, hx1, hba⟩
        have hy1 : StrAt w3.heap.size wa a2 ys := hy.below hba
        go_wp2_with fail
        refine (clone_any w3.heap.size a2 ys c2 wa hy1 hba.size (by omega) hn2).mono ?_
        rintro e wb ⟨b2, d2, rfl, hy2, hbb⟩
        have hx2 : StrAt wb.heap.size wb b1 xs := (hx1.below hbb).mono hbb.size
        have hbw : Below w3.heap.size w3 wb := hba.trans (hbb.mono hba.size)
        clear hx hy hx1 hy1 hba hbb hn1 hn2
        have hlen : ∀ j, j < xs.length → (xs[j]?.getD ByteArray.empty).size ≤ 1048576 := fun j hj => by have := size_le_sumL xs j hj; omega
        have hlen2 : ∀ j, j < ys.length → (ys[j]?.getD ByteArray.empty).size ≤ 1048576 := fun j hj => by have := size_le_sumL ys j hj; omega
        go_wp2_with fail
        go_loopw [6] (fun i wr => ∃ (k q : Nat), k ≤ xs.length ∧ i = .int .i64 k ∧ wr = wb.drewN q ∧ Hid (∀ j, j < k → GoodO (xs[j]?.getD ByteArray.empty))) (fun i _ => xs.length - (intOf i).toNat)
        case atStart => exact ⟨0, 0, Nat.zero_le _, rfl, rfl, fun j hj => absurd hj (Nat.not_lt_zero _)⟩
        case round =>
          obtain ⟨k, q, hk, rfl, rfl, HG⟩ := hrel
          by_cases hlt : k < xs.length
          · obtain ⟨b, off, rfl, hb, hcell⟩ := hx2 k hlt
            have hsk := hlen k hlt
            have HGk : Hid (GoodO (xs[k]?.getD ByteArray.empty) → ∀ j, j < k + 1 → GoodO (xs[j]?.getD ByteArray.empty)) := fun hg j hj => by
              by_cases e : j = k
              · subst e; exact hg
              · exact HG.out j (by omega)
            generalize xs[k]?.getD ByteArray.empty = s at hcell hsk HGk
            go_wp2_with fail
            refine (clean_any s _ (by omega)).mono ?_
            rintro e w9 ⟨b, rfl, hcl, q2, rfl⟩
            cases b with
            | false =>
              clear hcl
              go_wp2_with fail
              go_ret
              exact ⟨rfl, bdrewN hbw _⟩
            | true =>
              have hC := hcl rfl
              clear hcl
              have hp := clean_pos hC
              have HC : Hid (Clean s.data.toList) := hC
              clear hC
              by_cases h45 : s[0]'hp = 45
              · have h45' : ((s[0]'hp).toNat : Int) = 45 := by rw [h45]; rfl
                clear h45
                go_wp2_with fail
                go_ret
                exact ⟨rfl, bdrewN hbw _⟩
              · have h45' : (((s[0]'hp).toNat : Int) == 45) = false := by
                  rw [beq_eq_false_iff_ne]
                  intro e
                  exact h45 (UInt8.toNat_inj.1 (by simpa using (Int.ofNat_inj.1 e)))
                have H45 : Hid (s[0]'hp ≠ 45) := h45
                clear h45
                go_wp2_with fail
                go_roundw
                case rel =>
                  refine ⟨k + 1, _, by omega, by go_num, rfl, HGk.out ⟨HC.out, ?_⟩⟩
                  rw [head_at hp]
                  intro e
                  exact H45.out (Option.some.inj e)
                case measure => simp [intOf]; omega
          · have ek : k = xs.length := by omega
            subst ek
            have HGx : Hid (∀ j, j < xs.length → GoodO (xs[j]?.getD ByteArray.empty)) := HG
            clear HG
            go_wp2_with fail
            go_loopw [7] (fun i wr => ∃ (k q : Nat), k ≤ ys.length ∧ i = .int .i64 k ∧ wr = wb.drewN q ∧ Hid (∀ j, j < k → Clean (ys[j]?.getD ByteArray.empty).data.toList)) (fun i _ => ys.length - (intOf i).toNat)
            case atStart => exact ⟨0, q, Nat.zero_le _, rfl, rfl, fun j hj => absurd hj (Nat.not_lt_zero _)⟩
            case round =>
              clear q
              obtain ⟨k, q, hk2, rfl, rfl, HG⟩ := hrel
              by_cases hlt2 : k < ys.length
              · obtain ⟨b, off, rfl, hb, hcell⟩ := hy2 k hlt2
                have hsk := hlen2 k hlt2
                have HGk : Hid (Clean (ys[k]?.getD ByteArray.empty).data.toList → ∀ j, j < k + 1 → Clean (ys[j]?.getD ByteArray.empty).data.toList) := fun hg j hj => by
                  by_cases e : j = k
                  · subst e; exact hg
                  · exact HG.out j (by omega)
                generalize ys[k]?.getD ByteArray.empty = s at hcell hsk HGk
                go_wp2_with fail
                refine (clean_any s _ (by omega)).mono ?_
                rintro e w9 ⟨b, rfl, hcl, q2, rfl⟩
                cases b with
                | false =>
                  clear hcl
                  go_wp2_with fail
                  go_ret
                  exact ⟨rfl, bdrewN hbw _⟩
                | true =>
                  have HC : Hid (Clean s.data.toList) := hcl rfl
                  clear hcl
                  go_wp2_with fail
                  go_roundw
                  case rel => exact ⟨k + 1, _, by omega, by go_num, rfl, HGk.out HC.out⟩
                  case measure => simp [intOf]; omega
              · have ek : k = ys.length := by omega
                subst ek
                have HGy : Hid (∀ j, j < ys.length → Clean (ys[j]?.getD ByteArray.empty).data.toList) := HG
                clear HG hlen hlen2 hlt hlt2 hk hk2
                by_cases h1 : xs.length = 1
                · obtain ⟨bb, off, rfl, hb, hcell⟩ := hx2 0 (by omega)
                  rw [Nat.add_zero] at hcell
                  have t1 : ((xs.length : Int) == 1) = true := by rw [h1]; rfl
                  have hge : (0 : Int) < (xs.length : Int) := by omega
                  have H1 : Hid (xs.length = 1) := h1
                  clear h1
                  by_cases h2 : ys.length = 0
                  · have t2 : ((ys.length : Int) == 0) = true := by rw [h2]; rfl
                    have H2 : Hid (ys.length = 0) := h2
                    clear h2
                    have HNS0 : Hid ((xs[0]?.getD ByteArray.empty).data.toList ≠ [42] → fmtAll (xs.map (·.data.toList)) (ys.map (·.data.toList)) ≠ [42]) := fun hne e => by
                      obtain ⟨x0, hx0⟩ := List.length_eq_one_iff.1 H1.out
                      have hy0 := List.eq_nil_of_length_eq_zero H2.out
                      subst hx0; subst hy0
                      simp [fmtAll, joinC] at e
                      exact hne (by simpa using e)
                    generalize xs[0]?.getD ByteArray.empty = s0 at hcell HNS0
                    cases h3 : (s0.toList == [42]) with
                    | true =>
                      go_wp2_with fail
                      go_ret
                      exact ⟨rfl, bdrewN hbw _⟩
                    | false =>
                      have HNS : Hid (fmtAll (xs.map (·.data.toList)) (ys.map (·.data.toList)) ≠ [42]) := HNS0.out (by
                        intro e
                        rw [ByteArray.toList_eq, e] at h3
                        simp at h3)
                      go_wp2_with fail
                      refine (format_any wb.heap.size _ _ xs ys _ _ _ (hx2.drewN _) (hy2.drewN _) (Nat.le_refl _) hsz).mono ?_
                      rintro e wc ⟨rfl, hbc⟩
                      have hbwc : Below w3.heap.size w3 wc := (bdrewN hbw _).trans (hbc.mono (bdrewN hbw _).size)
                      have hxc : StrAt wc.heap.size wc _ xs := ((hx2.drewN _).below hbc).mono hbc.size
                      have hyc : StrAt wc.heap.size wc _ ys := ((hy2.drewN _).below hbc).mono hbc.size
                      have Tc := T.below hbwc
                      have CP := parse_fmt xs ys wc Tc hsz HGx.out HGy.out HNS.out
                      generalize fmtAll (xs.map (·.data.toList)) (ys.map (·.data.toList)) = fs at CP
                      go_wp2_with fail
                      refine CP.mono ?_
                      clear CP
                      rintro e wd ⟨au, cu, av, cv, rfl, hu, hv, hbd⟩
                      have hbwd : Below w3.heap.size w3 wd := hbwc.trans (hbd.mono hbwc.size)
                      have hxd : StrAt wd.heap.size wd _ xs := (hxc.below hbd).mono hbd.size
                      have hyd : StrAt wd.heap.size wd _ ys := (hyc.below hbd).mono hbd.size
                      have hal : ∀ o, Below wd.heap.size wd (wd.alloc o) := fun o => (Below.refl _ wd).alloc (Nat.le_refl _) o
                      clear hbc hbd hxc hyc Tc
                      go_wp2_with fail
                      refine (equal_any wd.heap.size _ _ xs _ _ _ (hu.below (hal _)) (hxd.below (hal _)) (by omega)).mono ?_
                      rintro e we ⟨rfl, q3, rfl⟩
                      go_wp2_with fail
                      refine (equal_any wd.heap.size _ _ ys _ _ _ ((hv.below (hal _)).drewN q3) ((hyd.below (hal _)).drewN q3) (by omega)).mono ?_
                      rintro e wf ⟨rfl, q4, rfl⟩
                      go_wp2_with fail
                      go_ret
                      exact ⟨rfl, bdrewN (hbwd.trans ((hal _).mono hbwd.size)) _⟩
                  · have t2 : ((ys.length : Int) == 0) = false := by rw [beq_eq_false_iff_ne]; omega
                    have HNS : Hid (fmtAll (xs.map (·.data.toList)) (ys.map (·.data.toList)) ≠ [42]) := not_star xs ys HGx.out HGy.out (fun h => h2 h.2)
                    clear h2
                    go_wp2_with fail
                    refine (format_any wb.heap.size _ _ xs ys _ _ _ (hx2.drewN _) (hy2.drewN _) (Nat.le_refl _) hsz).mono ?_
                    rintro e wc ⟨rfl, hbc⟩
                    have hbwc : Below w3.heap.size w3 wc := (bdrewN hbw _).trans (hbc.mono (bdrewN hbw _).size)
                    have hxc : StrAt wc.heap.size wc _ xs := ((hx2.drewN _).below hbc).mono hbc.size
                    have hyc : StrAt wc.heap.size wc _ ys := ((hy2.drewN _).below hbc).mono hbc.size
                    have Tc := T.below hbwc
                    have CP := parse_fmt xs ys wc Tc hsz HGx.out HGy.out HNS.out
                    generalize fmtAll (xs.map (·.data.toList)) (ys.map (·.data.toList)) = fs at CP
                    go_wp2_with fail
                    refine CP.mono ?_
                    clear CP
                    rintro e wd ⟨au, cu, av, cv, rfl, hu, hv, hbd⟩
                    have hbwd : Below w3.heap.size w3 wd := hbwc.trans (hbd.mono hbwc.size)
                    have hxd : StrAt wd.heap.size wd _ xs := (hxc.below hbd).mono hbd.size
                    have hyd : StrAt wd.heap.size wd _ ys := (hyc.below hbd).mono hbd.size
                    have hal : ∀ o, Below wd.heap.size wd (wd.alloc o) := fun o => (Below.refl _ wd).alloc (Nat.le_refl _) o
                    clear hbc hbd hxc hyc Tc
                    go_wp2_with fail
                    refine (equal_any wd.heap.size _ _ xs _ _ _ (hu.below (hal _)) (hxd.below (hal _)) (by omega)).mono ?_
                    rintro e we ⟨rfl, q3, rfl⟩
                    go_wp2_with fail
                    refine (equal_any wd.heap.size _ _ ys _ _ _ ((hv.below (hal _)).drewN q3) ((hyd.below (hal _)).drewN q3) (by omega)).mono ?_
                    rintro e wf ⟨rfl, q4, rfl⟩
                    go_wp2_with fail
                    go_ret
                    exact ⟨rfl, bdrewN (hbwd.trans ((hal _).mono hbwd.size)) _⟩
                · have t1 : ((xs.length : Int) == 1) = false := by rw [beq_eq_false_iff_ne]; omega
                  have HNS : Hid (fmtAll (xs.map (·.data.toList)) (ys.map (·.data.toList)) ≠ [42]) := not_star xs ys HGx.out HGy.out (fun h => h1 h.1)
                  clear h1
                  go_wp2_with fail
                  refine (format_any wb.heap.size _ _ xs ys _ _ _ (hx2.drewN _) (hy2.drewN _) (Nat.le_refl _) hsz).mono ?_
                  rintro e wc ⟨rfl, hbc⟩
                  have hbwc : Below w3.heap.size w3 wc := (bdrewN hbw _).trans (hbc.mono (bdrewN hbw _).size)
                  have hxc : StrAt wc.heap.size wc _ xs := ((hx2.drewN _).below hbc).mono hbc.size
                  have hyc : StrAt wc.heap.size wc _ ys := ((hy2.drewN _).below hbc).mono hbc.size
                  have Tc := T.below hbwc
                  have CP := parse_fmt xs ys wc Tc hsz HGx.out HGy.out HNS.out
                  generalize fmtAll (xs.map (·.data.toList)) (ys.map (·.data.toList)) = fs at CP
                  go_wp2_with fail
                  refine CP.mono ?_
                  clear CP
                  rintro e wd ⟨au, cu, av, cv, rfl, hu, hv, hbd⟩
                  have hbwd : Below w3.heap.size w3 wd := hbwc.trans (hbd.mono hbwc.size)
                  have hxd : StrAt wd.heap.size wd _ xs := (hxc.below hbd).mono hbd.size
                  have hyd : StrAt wd.heap.size wd _ ys := (hyc.below hbd).mono hbd.size
                  have hal : ∀ o, Below wd.heap.size wd (wd.alloc o) := fun o => (Below.refl _ wd).alloc (Nat.le_refl _) o
                  clear hbc hbd hxc hyc Tc
                  go_wp2_with fail
                  refine (equal_any wd.heap.size _ _ xs _ _ _ (hu.below (hal _)) (hxd.below (hal _)) (by omega)).mono ?_
                  rintro e we ⟨rfl, q3, rfl⟩
                  go_wp2_with fail
                  refine (equal_any wd.heap.size _ _ ys _ _ _ ((hv.below (hal _)).drewN q3) ((hyd.below (hal _)).drewN q3) (by omega)).mono ?_
                  rintro e wf ⟨rfl, q4, rfl⟩
                  go_wp2_with fail
                  go_ret
                  exact ⟨rfl, bdrewN (hbwd.trans ((hal _).mono hbwd.size)) _⟩
end Go.Proofs.Qxb6600830aDoor
