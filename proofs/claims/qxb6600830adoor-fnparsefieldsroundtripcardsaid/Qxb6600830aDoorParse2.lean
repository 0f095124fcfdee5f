/-
  Seat b6600830aD: the walk of ParseFields.
-/
import Derived.Test.Qxb6600830aDoorParse
namespace Go.Proofs.Qxb6600830aDoor
open Go.RowKit Go.Shelf

attribute [local go_sem] Oper.semAt_some

def RetParse (xs ys : List (List UInt8)) (w : World) (e : Ending) (w' : World) : Prop :=
  ∃ u v base, e = .returned (.agg #[u, v]) ∧ w'.ownsRow base 9 1 u xs.length (xs.map strV) ∧ w'.ownsRow base 9 1 v ys.length (ys.map strV) ∧ Below w.heap.size w w'

/-- strings.TrimSpace, in this text's words. -/
theorem trimSp_any (s : ByteArray) (W : World) (T : Tabs W) (hs : s.size ≤ 4194304) (t : ByteArray) (ht : t = baOf (Lib.trimSpaceD s.data.toList)) :
    Calls Tryd.prog 12 #[.string s] W fun e w' => e = .returned (.string t) ∧ Below W.heap.size W w' := by
  subst ht
  exact Tryd.strings_TrimSpace_any s W (by omega) T.sp T.u8 T.ws

theorem hasPre_ex (p : List UInt8) : Lib.hasPrefix (Lib.trimSpaceD p) [45] = exB p := by
  unfold Lib.hasPrefix exB
  cases Lib.trimSpaceD p with
  | nil => rfl
  | cons a l =>
    simp only [List.isPrefixOf, Bool.and_true, List.head?_cons]
    rw [Bool.eq_iff_iff]
    simp only [beq_iff_eq, Option.some.injEq]
    exact eq_comm

theorem cut_yes (x : ByteArray) (w : World) (h : exB x.data.toList = true) :
    Calls Tryd.prog 14 #[.string (baOf (Lib.trimSpaceD x.data.toList)), .string ⟨#[45]⟩] w fun e w' => e = .returned (.tuple #[.string (baOf ((Lib.trimSpaceD x.data.toList).drop 1)), .bool true]) ∧ w' = w := by
  have h0 := hasPre_ex x.data.toList
  rw [h] at h0
  refine (Tryd.strings_CutPrefix _ _ w).mono ?_
  rintro e w' ⟨rfl, rfl⟩
  refine ⟨?_, rfl⟩
  rw [baOf_toList, show (⟨#[45]⟩ : ByteArray).data.toList = [45] from rfl, h0]
  unfold Lib.trimPrefix
  rw [h0]
  rfl
theorem cut_no (x : ByteArray) (w : World) (h : exB x.data.toList = false) :
    Calls Tryd.prog 14 #[.string (baOf (Lib.trimSpaceD x.data.toList)), .string ⟨#[45]⟩] w fun e w' => (∃ y, e = .returned (.tuple #[.string y, .bool false])) ∧ w' = w := by
  have h0 := hasPre_ex x.data.toList
  rw [h] at h0
  refine (Tryd.strings_CutPrefix _ _ w).mono ?_
  rintro e w' ⟨rfl, rfl⟩
  refine ⟨⟨⟨(Lib.trimPrefix (Lib.trimSpaceD x.data.toList) [45]).toArray⟩, ?_⟩, rfl⟩
  rw [baOf_toList, show (⟨#[45]⟩ : ByteArray).data.toList = [45] from rfl, h0]

theorem trim_len (l : List UInt8) : (Lib.trimSpaceD l).length ≤ l.length := by
  have e1 : ∀ (f : Nat) (l : List UInt8), (Lib.trimLeftD f l).length ≤ l.length := by
    intro f
    induction f with
    | zero => intro l; exact Nat.le_refl _
    | succ f ih =>
      intro l
      unfold Lib.trimLeftD
      split
      · simp
      · split
        · have := ih (l.drop (Lib.decodeL l).2)
          simp at this; omega
        · exact Nat.le_refl _
  have e2 : ∀ (f : Nat) (l : List UInt8), (Lib.trimRightD f l).length ≤ l.length := by
    intro f
    induction f with
    | zero => intro l; exact Nat.le_refl _
    | succ f ih =>
      intro l
      unfold Lib.trimRightD
      split
      · simp
      · split
        · have := ih (l.take (l.length - (Lib.decodeLastL l).2))
          simp at this; omega
        · exact Nat.le_refl _
  unfold Lib.trimSpaceD
  have h1 := e2 l.length (Lib.trimLeftD l.length l)
  have h2 := e1 l.length l
  omega

theorem lsOf_splitB (t : ByteArray) : lsOf (splitB t) = splitC t.data.toList := by
  unfold lsOf splitB
  rw [List.map_map]
  conv => rhs; rw [← List.map_id (splitC t.data.toList)]
  rfl

set_option maxRecDepth 100000 in
set_option maxHeartbeats 2000000 in
theorem parse_any (s : ByteArray) (w : World) (hs : s.size ≤ 4194304) (T : Tabs w) (t : ByteArray) (ht : t = baOf (Lib.trimSpaceD s.data.toList)) (hts : t.size ≤ 4194304) (h1 : t.toList.isEmpty = false) (h2 : (t.toList == [42]) = false) :
    Calls Tryd.prog 9 #[.string s] w fun e w' => RetParse (onlyOf (splitC t.data.toList)) (exOf (splitC t.data.toList)) w e w' := by
  refine (callsIn_wide (n := 9)).1 ?_
  refine callsIn_of_wp_marks Tryd.func9 rfl trivial ?_ rfl
  simp only [Tryd.ntmps9, List.size_toArray, List.length_cons, List.length_nil, Nat.reduceAdd, Nat.reduceSub, Array.replicate_succ, Array.replicate_zero, List.push_toArray, List.append_toArray, List.nil_append, List.cons_append]
  gi_wp2_with fail
  have hbA : Below w.heap.size w ((w.alloc (.cells #[.slice none 0 0, .slice none 0 0] 29)).alloc (.cells #[.slice none 0 0, .slice none 0 0] 29)) := ((Below.refl _ w).alloc (Nat.le_refl _) _).alloc (by simp) _
  have pR : Pair ((w.alloc (.cells #[.slice none 0 0, .slice none 0 0] 29)).alloc (.cells #[.slice none 0 0, .slice none 0 0] 29)) w.heap.size (.slice none 0 0) (.slice none 0 0) :=
    (Below.heap_alloc _ _ _ (by simp)).trans (World.alloc_heap_new w _)
  have pF : Pair ((w.alloc (.cells #[.slice none 0 0, .slice none 0 0] 29)).alloc (.cells #[.slice none 0 0, .slice none 0 0] 29)) (w.heap.size + 1) (.slice none 0 0) (.slice none 0 0) := by
    have := World.alloc_heap_new (w.alloc (.cells #[.slice none 0 0, .slice none 0 0] 29)) (.cells #[.slice none 0 0, .slice none 0 0] 29)
    rwa [World.size_alloc] at this
  have hzA : ((w.alloc (.cells #[.slice none 0 0, .slice none 0 0] 29)).alloc (.cells #[.slice none 0 0, .slice none 0 0] 29)).heap.size = w.heap.size + 2 := by simp
  have TA := T.below hbA
  refine ⟨trivial, (callsIn_wide.2 (trimSp_any s _ TA hs t ht)).mono ?_⟩
  rintro e W1 ⟨rfl, hb1⟩
  have HT : Hid (t = baOf (Lib.trimSpaceD s.data.toList)) := ht
  clear ht
  generalize (w.alloc (.cells #[.slice none 0 0, .slice none 0 0] 29)).alloc (.cells #[.slice none 0 0, .slice none 0 0] 29) = WA at *
  have pR1 := pair_below pR hb1
  have pF1 := pair_below pF hb1
  have hbW1 : Below w.heap.size w W1 := hbA.trans (hb1.mono (by omega))
  have T1 := TA.below hb1
  have hz1 : w.heap.size + 2 ≤ W1.heap.size := by have := hb1.size; omega
  clear pR pF hzA TA hb1 hbA
  gi_wp2_with (refine ⟨trivial, ?_⟩; gi_at_call 13; refine (callsIn_wide.2 (splitSeq_any _ _ _)).mono ?_; rintro e w' ⟨rfl, rfl⟩)
  have bS : Boxed (((W1.alloc (.cells #[.string t] 9)).alloc (.cells #[.string ⟨#[44]⟩] 9)).alloc (.cells #[.int .i64 0] 3)) W1.heap.size 9 (.string t) := ((Boxed.new W1 9 (.string t)).alloc _).alloc _
  have bP : Boxed (((W1.alloc (.cells #[.string t] 9)).alloc (.cells #[.string ⟨#[44]⟩] 9)).alloc (.cells #[.int .i64 0] 3)) (W1.heap.size + 1) 9 (.string ⟨#[44]⟩) := by
    have := (Boxed.new (W1.alloc (.cells #[.string t] 9)) 9 (.string ⟨#[44]⟩)).alloc (.cells #[.int .i64 0] 3)
    rwa [World.size_alloc] at this
  have bN : Boxed (((W1.alloc (.cells #[.string t] 9)).alloc (.cells #[.string ⟨#[44]⟩] 9)).alloc (.cells #[.int .i64 0] 3)) (W1.heap.size + 2) 3 (.int .i64 0) := by
    have := Boxed.new ((W1.alloc (.cells #[.string t] 9)).alloc (.cells #[.string ⟨#[44]⟩] 9)) 3 (.int .i64 0)
    rwa [World.size_alloc, World.size_alloc] at this
  have hb2 : Below W1.heap.size W1 (((W1.alloc (.cells #[.string t] 9)).alloc (.cells #[.string ⟨#[44]⟩] 9)).alloc (.cells #[.int .i64 0] 3)) := (((Below.refl _ W1).alloc (Nat.le_refl _) _).alloc (by simp) _).alloc (by simp; omega) _
  have hz0 : (((W1.alloc (.cells #[.string t] 9)).alloc (.cells #[.string ⟨#[44]⟩] 9)).alloc (.cells #[.int .i64 0] 3)).heap.size = W1.heap.size + 3 := by simp
  generalize ((W1.alloc (.cells #[.string t] 9)).alloc (.cells #[.string ⟨#[44]⟩] 9)).alloc (.cells #[.int .i64 0] 3) = W0 at *
  have pR0 := pair_below pR1 hb2
  have pF0 := pair_below pF1 hb2
  have hbW0 : Below w.heap.size w W0 := hbW1.trans (hb2.mono (by omega))
  clear pR1 pF1 hb2 hbW1 T1
  refine wpIn_rangeFunc_cell rfl (by omega) (gf := 28) (lb := #[.pointer (some ⟨W1.heap.size + 1, 0, none⟩), .pointer (some ⟨W1.heap.size, 0, none⟩), .pointer (some ⟨W1.heap.size + 2, 0, none⟩)]) rfl trivial (enters_of Tryd.func28 (by kernel_rfl) rfl) (Bs := W1.heap.size) (by omega)
    (split_cell 8 (by omega) W1.heap.size (W1.heap.size + 3) W1.heap.size (W1.heap.size + 1) (W1.heap.size + 2) t W0 (by omega) bS bP bN (by omega) (by omega) (by omega) (by omega) (by omega) (by omega) (by omega) (by omega))
    KpR.trans (fun W l o' h => KpR.put W l o' (by omega)) rfl
    (Inv (W1.heap.size + 3) (w.heap.size + 1) w.heap.size w) (by rw [hz0]; exact inv_own (by omega) (by omega) (by omega)) (fun s W v h => inv_cell (by omega) (by omega) (by omega) (by omega) s W v h)
    ⟨⟨_, _, pF0, pR0, World.ownsRow_nil _ _ _ _, World.ownsRow_nil _ _ _ _, .inl rfl⟩, hbW0, by omega⟩
    (fun x => { tmps := #[.string t, undef, .pointer (some ⟨w.heap.size, 0, none⟩), .pointer (some ⟨w.heap.size + 1, 0, none⟩), .string x, undef, undef, .string s, .string t, .string t, .bool false, .bool false, .string t, .bool false, .bool false, undef, .string t,
        .func (.func 28) #[] #[.pointer (some ⟨W1.heap.size + 1, 0, none⟩), .pointer (some ⟨W1.heap.size, 0, none⟩), .pointer (some ⟨W1.heap.size + 2, 0, none⟩)],
        .string x, undef, undef, undef, undef, undef, undef, undef, undef, undef, undef, undef, undef, undef, undef, undef, undef, undef, undef, undef, undef, undef, undef], defers := [] }) ?assign ?body ?done
  case assign =>
    intro l x W K hK
    gi_wp2
    exact hK
  case body =>
    clear bS bP bN pR0 pF0 hbW0
    rintro l pre x W ⟨⟨u, v, pF, pR, ownU, ownV, hdis⟩, hbW, hzW⟩ hlen hxM
    have TW := T.below hbW
    clear h1 h2
    rw [hz0]
    clear hz0
    gi_wp2_with fail
    refine ⟨trivial, (CallsIn.inRound l (callsIn_wide.2 (trimSp_any x _ TW (by omega) _ rfl))).mono ?_⟩
    rintro e Wa ⟨rfl, hba⟩
    have pFa := pair_below pF hba
    have ownUa := own_below ownU hba
    have ownVa := own_below ownV hba
    have sa : Step (W1.heap.size + 3) (w.heap.size + 1) W Wa := Step.of_below hzW hba
    have Ta := TW.below hba
    have hza : W1.heap.size + 3 ≤ Wa.heap.size := Nat.le_trans hzW hba.size
    have HpR : Hid (Pair W w.heap.size (.slice none 0 0) (.slice none 0 0)) := pR
    clear pF ownU ownV hba TW pR
    have hol : (onlyOf (lsOf pre)).length ≤ 4194304 := by have h1 := onlyOf_length (lsOf pre); rw [lsOf_length] at h1; omega
    have hel : (exOf (lsOf pre)).length ≤ 4194304 := by have h1 := exOf_length (lsOf pre); rw [lsOf_length] at h1; omega
    cases hex : exB x.data.toList with
    | false =>
      gi_wp2_with (refine ⟨trivial, ?_⟩; gi_at_call 14; fail)
      refine ⟨trivial, (CallsIn.inRound l (callsIn_wide.2 (cut_no x _ hex))).mono ?_⟩
      rintro e w' ⟨⟨y, rfl⟩, rfl⟩
      have cF0 := pFa.cell0
      gi_wp2_with (gi_at_builtin; refine wpListIn_append_one (v := u) _ rfl (.tmp 35) (.tmp 37) rfl rfl (ownUa.alloc _) ⟨w'.heap.size, 0, none⟩ (strV (Lib.trimSpaceD x.data.toList)) rfl rfl (by simp [strV]) (by omega) (by simp; omega) ?_; intro g cap w1 hown1 hgrow1 hg1; obtain ⟨pF1, ownV1, s1, hne⟩ := app_mid (by omega) hza pFa ownUa ownVa hdis hgrow1 hg1; have cF1 := pF1.cell0; have fF1 := pF1.frozen 0)
      exact fin_only (lo := W1.heap.size) (a := ⟨#[], []⟩) (sa.trans s1) (by omega) (by omega) (by omega) (by omega) hbW hzW HpR.out pF1 hown1 ownV1 hne hex
    | true =>
      gi_wp2_with (refine ⟨trivial, ?_⟩; gi_at_call 14; fail)
      refine ⟨trivial, (CallsIn.inRound l (callsIn_wide.2 (cut_yes x _ hex))).mono ?_⟩
      rintro e w' ⟨rfl, rfl⟩
      have hlfs : (baOf ((Lib.trimSpaceD x.data.toList).drop 1)).size ≤ 4194304 := by
        have h1 := trim_len x.data.toList
        rw [baOf_size, List.length_drop]
        rw [← Lib.size_eq] at h1
        omega
      have FIN : ∀ (a0 : Act) (g cap : Nat) (w2 : World), w2.ownsRow (W1.heap.size + 3) 9 1 (.slice (some ⟨g, 0, none⟩) ((exOf (lsOf pre)).length + 1) cap) ((exOf (lsOf pre)).length + 1) ((exOf (lsOf pre)).map strV ++ [.string (baOf (Lib.trimSpaceD ((Lib.trimSpaceD x.data.toList).drop 1)))]) →
          Pair w2 (w.heap.size + 1) u v → w2.ownsRow (W1.heap.size + 3) 9 1 u (onlyOf (lsOf pre)).length ((onlyOf (lsOf pre)).map strV) → Step (W1.heap.size + 3) (w.heap.size + 1) W w2 → some g ≠ u.ownBlock →
          cellPost (W1.heap.size + 3) (KpR W1.heap.size (W1.heap.size + 3)) (Inv (W1.heap.size + 3) (w.heap.size + 1) w.heap.size w) (pre ++ [x]) W .normal a0 (w2.setCell ⟨w.heap.size + 1, 1, none⟩ (.slice (some ⟨g, 0, none⟩) ((exOf (lsOf pre)).length + 1) cap)) :=
        fun a0 g cap w2 q1 q2 q3 q4 q5 => fin_ex q4 (by omega) (by omega) (by omega) (by omega) hbW hzW HpR.out q2 q1 q3 q5 hex
      have hlt : baOf (Lib.trimSpaceD ((Lib.trimSpaceD x.data.toList).drop 1)) = baOf (Lib.trimSpaceD (baOf ((Lib.trimSpaceD x.data.toList).drop 1)).data.toList) := by rw [baOf_toList]
      generalize baOf (Lib.trimSpaceD ((Lib.trimSpaceD x.data.toList).drop 1)) = lt at hlt FIN
      generalize baOf ((Lib.trimSpaceD x.data.toList).drop 1) = lf at hlt hlfs
      generalize baOf (Lib.trimSpaceD x.data.toList) = nm
      have HLT : Hid (lt = baOf (Lib.trimSpaceD lf.data.toList)) := hlt
      clear hlt
      have Td : Tabs w'.drew := Ta.below (Below.refl _ w').drew
      have hmx : Tryd.prog.follows .mixedOrders = true := by kernel_rfl
      gi_wp2_with fail
      refine wpIn_region_any hmx ?_
      try (change wpAnyIn _ _ _ _ _ _ _ _ _ (World.drew _))
      have cF1 := pFa.cell1
      refine wpAnyIn_ready (rs := [0, 2]) (by kernel_rfl) (by simp) ?_
      refine AllReadyIn.cons rfl (fun K hK => ?_) (AllReadyIn.cons rfl (fun K hK => ?_) AllReadyIn.nil)
      · go_simp
        refine hK _ _ ?_; clear hK K
        refine wpAnyIn_ready (rs := [1, 2]) (by kernel_rfl) (by simp) ?_
        refine AllReadyIn.cons rfl (fun K hK => ?_) (AllReadyIn.cons rfl (fun K hK => ?_) AllReadyIn.nil)
        · go_simp
          refine hK _ _ ?_; clear hK K
          refine wpAnyIn_ready (rs := [2]) (by kernel_rfl) (by simp) ?_
          refine AllReadyIn.cons rfl (fun K hK => ?_) AllReadyIn.nil
          go_simp
          refine hK _ _ ?_; clear hK K
          refine wpAnyIn_ready (rs := [3]) (by kernel_rfl) (by simp) ?_
          refine AllReadyIn.cons rfl (fun K hK => ?_) AllReadyIn.nil
          go_simp
          refine ⟨trivial, (CallsIn.inRound l (callsIn_wide.2 (trimSp_any lf _ Td hlfs lt HLT.out))).mono ?_⟩
          rintro e Wb ⟨rfl, hbb⟩
          obtain ⟨pFb, ownUb, ownVb, sb, hzb, hblt⟩ := after_call pFa ownUa ownVa sa hza hbb
          have cFb := pFb.cell1
          have cFc : ∀ o, (Wb.alloc o).cell? ⟨w.heap.size + 1, 1, none⟩ = some v := fun o => (pair_below pFb ((Below.refl _ Wb).alloc (Nat.le_refl _) o)).cell1
          refine hK _ _ ?_; clear hK K
          refine wpAnyIn_ready (rs := [4]) (by kernel_rfl) (by simp) ?_
          refine AllReadyIn.cons rfl (fun K hK => ?_) AllReadyIn.nil
          go_simp
          refine hK _ _ ?_; clear hK K
          refine wpAnyIn_ready (rs := [5]) (by kernel_rfl) (by simp) ?_
          refine AllReadyIn.cons rfl (fun K hK => ?_) AllReadyIn.nil
          refine stepIn_append_one (v := v) rfl (.tmp 28) (.tmp 31) rfl rfl (ownVb.alloc _) ⟨Wb.heap.size, 0, none⟩ (.string lt) rfl rfl (cell_new1 Wb (.string lt)) (by omega) (by simp; omega) ?_
          intro g cap w2 hown2 hgrow2 hg2
          obtain ⟨pF2, ownU2, s2, hne⟩ := app_mid2 (by omega) hzb pFb ownUb ownVb hdis hgrow2 hg2
          have cF2 := pF2.cell1
          have fF2 := pF2.frozen 1
          refine hK _ _ ?_; clear hK K
          refine wpAnyIn_ready (rs := [6]) (by kernel_rfl) (by simp) ?_
          refine AllReadyIn.cons rfl (fun K hK => ?_) AllReadyIn.nil
          go_simp
          refine hK _ _ ?_; clear hK K
          refine wpAnyIn_ready (rs := [7]) (by kernel_rfl) (by simp) ?_
          refine AllReadyIn.cons rfl (fun K hK => ?_) AllReadyIn.nil
          go_simp
          refine hK _ _ ?_; clear hK K
          refine wpAnyIn_done (by kernel_rfl) ?_ _
          exact FIN ⟨#[], []⟩ g cap w2 hown2 pF2 ownU2 (sb.trans s2) hne
        · go_simp
          refine hK _ _ ?_; clear hK K
          refine wpAnyIn_ready (rs := [1, 3]) (by kernel_rfl) (by simp) ?_
          refine AllReadyIn.cons rfl (fun K hK => ?_) (AllReadyIn.cons rfl (fun K hK => ?_) AllReadyIn.nil)
          · go_simp
            refine hK _ _ ?_; clear hK K
            refine wpAnyIn_ready (rs := [3]) (by kernel_rfl) (by simp) ?_
            refine AllReadyIn.cons rfl (fun K hK => ?_) AllReadyIn.nil
            go_simp
            refine ⟨trivial, (CallsIn.inRound l (callsIn_wide.2 (trimSp_any lf _ Td hlfs lt HLT.out))).mono ?_⟩
            rintro e Wb ⟨rfl, hbb⟩
            obtain ⟨pFb, ownUb, ownVb, sb, hzb, hblt⟩ := after_call pFa ownUa ownVa sa hza hbb
            have cFb := pFb.cell1
            have cFc : ∀ o, (Wb.alloc o).cell? ⟨w.heap.size + 1, 1, none⟩ = some v := fun o => (pair_below pFb ((Below.refl _ Wb).alloc (Nat.le_refl _) o)).cell1
            refine hK _ _ ?_; clear hK K
            refine wpAnyIn_ready (rs := [4]) (by kernel_rfl) (by simp) ?_
            refine AllReadyIn.cons rfl (fun K hK => ?_) AllReadyIn.nil
            go_simp
            refine hK _ _ ?_; clear hK K
            refine wpAnyIn_ready (rs := [5]) (by kernel_rfl) (by simp) ?_
            refine AllReadyIn.cons rfl (fun K hK => ?_) AllReadyIn.nil
            refine stepIn_append_one (v := v) rfl (.tmp 28) (.tmp 31) rfl rfl (ownVb.alloc _) ⟨Wb.heap.size, 0, none⟩ (.string lt) rfl rfl (cell_new1 Wb (.string lt)) (by omega) (by simp; omega) ?_
            intro g cap w2 hown2 hgrow2 hg2
            obtain ⟨pF2, ownU2, s2, hne⟩ := app_mid2 (by omega) hzb pFb ownUb ownVb hdis hgrow2 hg2
            have cF2 := pF2.cell1
            have fF2 := pF2.frozen 1
            refine hK _ _ ?_; clear hK K
            refine wpAnyIn_ready (rs := [6]) (by kernel_rfl) (by simp) ?_
            refine AllReadyIn.cons rfl (fun K hK => ?_) AllReadyIn.nil
            go_simp
            refine hK _ _ ?_; clear hK K
            refine wpAnyIn_ready (rs := [7]) (by kernel_rfl) (by simp) ?_
            refine AllReadyIn.cons rfl (fun K hK => ?_) AllReadyIn.nil
            go_simp
            refine hK _ _ ?_; clear hK K
            refine wpAnyIn_done (by kernel_rfl) ?_ _
            exact FIN ⟨#[], []⟩ g cap w2 hown2 pF2 ownU2 (sb.trans s2) hne
          · go_simp
            refine ⟨trivial, (CallsIn.inRound l (callsIn_wide.2 (trimSp_any lf _ Td hlfs lt HLT.out))).mono ?_⟩
            rintro e Wb ⟨rfl, hbb⟩
            obtain ⟨pFb, ownUb, ownVb, sb, hzb, hblt⟩ := after_call pFa ownUa ownVa sa hza hbb
            have cFb := pFb.cell1
            have cFc : ∀ o, (Wb.alloc o).cell? ⟨w.heap.size + 1, 1, none⟩ = some v := fun o => (pair_below pFb ((Below.refl _ Wb).alloc (Nat.le_refl _) o)).cell1
            refine hK _ _ ?_; clear hK K
            refine wpAnyIn_ready (rs := [1, 4]) (by kernel_rfl) (by simp) ?_
            refine AllReadyIn.cons rfl (fun K hK => ?_) (AllReadyIn.cons rfl (fun K hK => ?_) AllReadyIn.nil)
            · go_simp
              refine hK _ _ ?_; clear hK K
              refine wpAnyIn_ready (rs := [4]) (by kernel_rfl) (by simp) ?_
              refine AllReadyIn.cons rfl (fun K hK => ?_) AllReadyIn.nil
              go_simp
              refine hK _ _ ?_; clear hK K
              refine wpAnyIn_ready (rs := [5]) (by kernel_rfl) (by simp) ?_
              refine AllReadyIn.cons rfl (fun K hK => ?_) AllReadyIn.nil
              refine stepIn_append_one (v := v) rfl (.tmp 28) (.tmp 31) rfl rfl (ownVb.alloc _) ⟨Wb.heap.size, 0, none⟩ (.string lt) rfl rfl (cell_new1 Wb (.string lt)) (by omega) (by simp; omega) ?_
              intro g cap w2 hown2 hgrow2 hg2
              obtain ⟨pF2, ownU2, s2, hne⟩ := app_mid2 (by omega) hzb pFb ownUb ownVb hdis hgrow2 hg2
              have cF2 := pF2.cell1
              have fF2 := pF2.frozen 1
              refine hK _ _ ?_; clear hK K
              refine wpAnyIn_ready (rs := [6]) (by kernel_rfl) (by simp) ?_
              refine AllReadyIn.cons rfl (fun K hK => ?_) AllReadyIn.nil
              go_simp
              refine hK _ _ ?_; clear hK K
              refine wpAnyIn_ready (rs := [7]) (by kernel_rfl) (by simp) ?_
              refine AllReadyIn.cons rfl (fun K hK => ?_) AllReadyIn.nil
              go_simp
              refine hK _ _ ?_; clear hK K
              refine wpAnyIn_done (by kernel_rfl) ?_ _
              exact FIN ⟨#[], []⟩ g cap w2 hown2 pF2 ownU2 (sb.trans s2) hne
            · go_simp
              refine hK _ _ ?_; clear hK K
              refine wpAnyIn_ready (rs := [1]) (by kernel_rfl) (by simp) ?_
              refine AllReadyIn.cons rfl (fun K hK => ?_) AllReadyIn.nil
              go_simp
              refine hK _ _ ?_; clear hK K
              refine wpAnyIn_ready (rs := [5]) (by kernel_rfl) (by simp) ?_
              refine AllReadyIn.cons rfl (fun K hK => ?_) AllReadyIn.nil
              refine stepIn_append_one (v := v) rfl (.tmp 28) (.tmp 31) rfl rfl (ownVb.alloc _) ⟨Wb.heap.size, 0, none⟩ (.string lt) rfl rfl (cell_new1 Wb (.string lt)) (by omega) (by simp; omega) ?_
              intro g cap w2 hown2 hgrow2 hg2
              obtain ⟨pF2, ownU2, s2, hne⟩ := app_mid2 (by omega) hzb pFb ownUb ownVb hdis hgrow2 hg2
              have cF2 := pF2.cell1
              have fF2 := pF2.frozen 1
              refine hK _ _ ?_; clear hK K
              refine wpAnyIn_ready (rs := [6]) (by kernel_rfl) (by simp) ?_
              refine AllReadyIn.cons rfl (fun K hK => ?_) AllReadyIn.nil
              go_simp
              refine hK _ _ ?_; clear hK K
              refine wpAnyIn_ready (rs := [7]) (by kernel_rfl) (by simp) ?_
              refine AllReadyIn.cons rfl (fun K hK => ?_) AllReadyIn.nil
              go_simp
              refine hK _ _ ?_; clear hK K
              refine wpAnyIn_done (by kernel_rfl) ?_ _
              exact FIN ⟨#[], []⟩ g cap w2 hown2 pF2 ownU2 (sb.trans s2) hne
      · go_simp
        refine hK _ _ ?_; clear hK K
        refine wpAnyIn_ready (rs := [0, 3]) (by kernel_rfl) (by simp) ?_
        refine AllReadyIn.cons rfl (fun K hK => ?_) (AllReadyIn.cons rfl (fun K hK => ?_) AllReadyIn.nil)
        · go_simp
          refine hK _ _ ?_; clear hK K
          refine wpAnyIn_ready (rs := [1, 3]) (by kernel_rfl) (by simp) ?_
          refine AllReadyIn.cons rfl (fun K hK => ?_) (AllReadyIn.cons rfl (fun K hK => ?_) AllReadyIn.nil)
          · go_simp
            refine hK _ _ ?_; clear hK K
            refine wpAnyIn_ready (rs := [3]) (by kernel_rfl) (by simp) ?_
            refine AllReadyIn.cons rfl (fun K hK => ?_) AllReadyIn.nil
            go_simp
            refine ⟨trivial, (CallsIn.inRound l (callsIn_wide.2 (trimSp_any lf _ Td hlfs lt HLT.out))).mono ?_⟩
            rintro e Wb ⟨rfl, hbb⟩
            obtain ⟨pFb, ownUb, ownVb, sb, hzb, hblt⟩ := after_call pFa ownUa ownVa sa hza hbb
            have cFb := pFb.cell1
            have cFc : ∀ o, (Wb.alloc o).cell? ⟨w.heap.size + 1, 1, none⟩ = some v := fun o => (pair_below pFb ((Below.refl _ Wb).alloc (Nat.le_refl _) o)).cell1
            refine hK _ _ ?_; clear hK K
            refine wpAnyIn_ready (rs := [4]) (by kernel_rfl) (by simp) ?_
            refine AllReadyIn.cons rfl (fun K hK => ?_) AllReadyIn.nil
            go_simp
            refine hK _ _ ?_; clear hK K
            refine wpAnyIn_ready (rs := [5]) (by kernel_rfl) (by simp) ?_
            refine AllReadyIn.cons rfl (fun K hK => ?_) AllReadyIn.nil
            refine stepIn_append_one (v := v) rfl (.tmp 28) (.tmp 31) rfl rfl (ownVb.alloc _) ⟨Wb.heap.size, 0, none⟩ (.string lt) rfl rfl (cell_new1 Wb (.string lt)) (by omega) (by simp; omega) ?_
            intro g cap w2 hown2 hgrow2 hg2
            obtain ⟨pF2, ownU2, s2, hne⟩ := app_mid2 (by omega) hzb pFb ownUb ownVb hdis hgrow2 hg2
            have cF2 := pF2.cell1
            have fF2 := pF2.frozen 1
            refine hK _ _ ?_; clear hK K
            refine wpAnyIn_ready (rs := [6]) (by kernel_rfl) (by simp) ?_
            refine AllReadyIn.cons rfl (fun K hK => ?_) AllReadyIn.nil
            go_simp
            refine hK _ _ ?_; clear hK K
            refine wpAnyIn_ready (rs := [7]) (by kernel_rfl) (by simp) ?_
            refine AllReadyIn.cons rfl (fun K hK => ?_) AllReadyIn.nil
            go_simp
            refine hK _ _ ?_; clear hK K
            refine wpAnyIn_done (by kernel_rfl) ?_ _
            exact FIN ⟨#[], []⟩ g cap w2 hown2 pF2 ownU2 (sb.trans s2) hne
          · go_simp
            refine ⟨trivial, (CallsIn.inRound l (callsIn_wide.2 (trimSp_any lf _ Td hlfs lt HLT.out))).mono ?_⟩
            rintro e Wb ⟨rfl, hbb⟩
            obtain ⟨pFb, ownUb, ownVb, sb, hzb, hblt⟩ := after_call pFa ownUa ownVa sa hza hbb
            have cFb := pFb.cell1
            have cFc : ∀ o, (Wb.alloc o).cell? ⟨w.heap.size + 1, 1, none⟩ = some v := fun o => (pair_below pFb ((Below.refl _ Wb).alloc (Nat.le_refl _) o)).cell1
            refine hK _ _ ?_; clear hK K
            refine wpAnyIn_ready (rs := [1, 4]) (by kernel_rfl) (by simp) ?_
            refine AllReadyIn.cons rfl (fun K hK => ?_) (AllReadyIn.cons rfl (fun K hK => ?_) AllReadyIn.nil)
            · go_simp
              refine hK _ _ ?_; clear hK K
              refine wpAnyIn_ready (rs := [4]) (by kernel_rfl) (by simp) ?_
              refine AllReadyIn.cons rfl (fun K hK => ?_) AllReadyIn.nil
              go_simp
              refine hK _ _ ?_; clear hK K
              refine wpAnyIn_ready (rs := [5]) (by kernel_rfl) (by simp) ?_
              refine AllReadyIn.cons rfl (fun K hK => ?_) AllReadyIn.nil
              refine stepIn_append_one (v := v) rfl (.tmp 28) (.tmp 31) rfl rfl (ownVb.alloc _) ⟨Wb.heap.size, 0, none⟩ (.string lt) rfl rfl (cell_new1 Wb (.string lt)) (by omega) (by simp; omega) ?_
              intro g cap w2 hown2 hgrow2 hg2
              obtain ⟨pF2, ownU2, s2, hne⟩ := app_mid2 (by omega) hzb pFb ownUb ownVb hdis hgrow2 hg2
              have cF2 := pF2.cell1
              have fF2 := pF2.frozen 1
              refine hK _ _ ?_; clear hK K
              refine wpAnyIn_ready (rs := [6]) (by kernel_rfl) (by simp) ?_
              refine AllReadyIn.cons rfl (fun K hK => ?_) AllReadyIn.nil
              go_simp
              refine hK _ _ ?_; clear hK K
              refine wpAnyIn_ready (rs := [7]) (by kernel_rfl) (by simp) ?_
              refine AllReadyIn.cons rfl (fun K hK => ?_) AllReadyIn.nil
              go_simp
              refine hK _ _ ?_; clear hK K
              refine wpAnyIn_done (by kernel_rfl) ?_ _
              exact FIN ⟨#[], []⟩ g cap w2 hown2 pF2 ownU2 (sb.trans s2) hne
            · go_simp
              refine hK _ _ ?_; clear hK K
              refine wpAnyIn_ready (rs := [1]) (by kernel_rfl) (by simp) ?_
              refine AllReadyIn.cons rfl (fun K hK => ?_) AllReadyIn.nil
              go_simp
              refine hK _ _ ?_; clear hK K
              refine wpAnyIn_ready (rs := [5]) (by kernel_rfl) (by simp) ?_
              refine AllReadyIn.cons rfl (fun K hK => ?_) AllReadyIn.nil
              refine stepIn_append_one (v := v) rfl (.tmp 28) (.tmp 31) rfl rfl (ownVb.alloc _) ⟨Wb.heap.size, 0, none⟩ (.string lt) rfl rfl (cell_new1 Wb (.string lt)) (by omega) (by simp; omega) ?_
              intro g cap w2 hown2 hgrow2 hg2
              obtain ⟨pF2, ownU2, s2, hne⟩ := app_mid2 (by omega) hzb pFb ownUb ownVb hdis hgrow2 hg2
              have cF2 := pF2.cell1
              have fF2 := pF2.frozen 1
              refine hK _ _ ?_; clear hK K
              refine wpAnyIn_ready (rs := [6]) (by kernel_rfl) (by simp) ?_
              refine AllReadyIn.cons rfl (fun K hK => ?_) AllReadyIn.nil
              go_simp
              refine hK _ _ ?_; clear hK K
              refine wpAnyIn_ready (rs := [7]) (by kernel_rfl) (by simp) ?_
              refine AllReadyIn.cons rfl (fun K hK => ?_) AllReadyIn.nil
              go_simp
              refine hK _ _ ?_; clear hK K
              refine wpAnyIn_done (by kernel_rfl) ?_ _
              exact FIN ⟨#[], []⟩ g cap w2 hown2 pF2 ownU2 (sb.trans s2) hne
        · go_simp
          refine ⟨trivial, (CallsIn.inRound l (callsIn_wide.2 (trimSp_any lf _ Td hlfs lt HLT.out))).mono ?_⟩
          rintro e Wb ⟨rfl, hbb⟩
          obtain ⟨pFb, ownUb, ownVb, sb, hzb, hblt⟩ := after_call pFa ownUa ownVa sa hza hbb
          have cFb := pFb.cell1
          have cFc : ∀ o, (Wb.alloc o).cell? ⟨w.heap.size + 1, 1, none⟩ = some v := fun o => (pair_below pFb ((Below.refl _ Wb).alloc (Nat.le_refl _) o)).cell1
          refine hK _ _ ?_; clear hK K
          refine wpAnyIn_ready (rs := [0, 4]) (by kernel_rfl) (by simp) ?_
          refine AllReadyIn.cons rfl (fun K hK => ?_) (AllReadyIn.cons rfl (fun K hK => ?_) AllReadyIn.nil)
          · go_simp
            refine hK _ _ ?_; clear hK K
            refine wpAnyIn_ready (rs := [1, 4]) (by kernel_rfl) (by simp) ?_
            refine AllReadyIn.cons rfl (fun K hK => ?_) (AllReadyIn.cons rfl (fun K hK => ?_) AllReadyIn.nil)
            · go_simp
              refine hK _ _ ?_; clear hK K
              refine wpAnyIn_ready (rs := [4]) (by kernel_rfl) (by simp) ?_
              refine AllReadyIn.cons rfl (fun K hK => ?_) AllReadyIn.nil
              go_simp
              refine hK _ _ ?_; clear hK K
              refine wpAnyIn_ready (rs := [5]) (by kernel_rfl) (by simp) ?_
              refine AllReadyIn.cons rfl (fun K hK => ?_) AllReadyIn.nil
              refine stepIn_append_one (v := v) rfl (.tmp 28) (.tmp 31) rfl rfl (ownVb.alloc _) ⟨Wb.heap.size, 0, none⟩ (.string lt) rfl rfl (cell_new1 Wb (.string lt)) (by omega) (by simp; omega) ?_
              intro g cap w2 hown2 hgrow2 hg2
              obtain ⟨pF2, ownU2, s2, hne⟩ := app_mid2 (by omega) hzb pFb ownUb ownVb hdis hgrow2 hg2
              have cF2 := pF2.cell1
              have fF2 := pF2.frozen 1
              refine hK _ _ ?_; clear hK K
              refine wpAnyIn_ready (rs := [6]) (by kernel_rfl) (by simp) ?_
              refine AllReadyIn.cons rfl (fun K hK => ?_) AllReadyIn.nil
              go_simp
              refine hK _ _ ?_; clear hK K
              refine wpAnyIn_ready (rs := [7]) (by kernel_rfl) (by simp) ?_
              refine AllReadyIn.cons rfl (fun K hK => ?_) AllReadyIn.nil
              go_simp
              refine hK _ _ ?_; clear hK K
              refine wpAnyIn_done (by kernel_rfl) ?_ _
              exact FIN ⟨#[], []⟩ g cap w2 hown2 pF2 ownU2 (sb.trans s2) hne
            · go_simp
              refine hK _ _ ?_; clear hK K
              refine wpAnyIn_ready (rs := [1]) (by kernel_rfl) (by simp) ?_
              refine AllReadyIn.cons rfl (fun K hK => ?_) AllReadyIn.nil
              go_simp
              refine hK _ _ ?_; clear hK K
              refine wpAnyIn_ready (rs := [5]) (by kernel_rfl) (by simp) ?_
              refine AllReadyIn.cons rfl (fun K hK => ?_) AllReadyIn.nil
              refine stepIn_append_one (v := v) rfl (.tmp 28) (.tmp 31) rfl rfl (ownVb.alloc _) ⟨Wb.heap.size, 0, none⟩ (.string lt) rfl rfl (cell_new1 Wb (.string lt)) (by omega) (by simp; omega) ?_
              intro g cap w2 hown2 hgrow2 hg2
              obtain ⟨pF2, ownU2, s2, hne⟩ := app_mid2 (by omega) hzb pFb ownUb ownVb hdis hgrow2 hg2
              have cF2 := pF2.cell1
              have fF2 := pF2.frozen 1
              refine hK _ _ ?_; clear hK K
              refine wpAnyIn_ready (rs := [6]) (by kernel_rfl) (by simp) ?_
              refine AllReadyIn.cons rfl (fun K hK => ?_) AllReadyIn.nil
              go_simp
              refine hK _ _ ?_; clear hK K
              refine wpAnyIn_ready (rs := [7]) (by kernel_rfl) (by simp) ?_
              refine AllReadyIn.cons rfl (fun K hK => ?_) AllReadyIn.nil
              go_simp
              refine hK _ _ ?_; clear hK K
              refine wpAnyIn_done (by kernel_rfl) ?_ _
              exact FIN ⟨#[], []⟩ g cap w2 hown2 pF2 ownU2 (sb.trans s2) hne
          · go_simp
            refine hK _ _ ?_; clear hK K
            refine wpAnyIn_ready (rs := [0]) (by kernel_rfl) (by simp) ?_
            refine AllReadyIn.cons rfl (fun K hK => ?_) AllReadyIn.nil
            go_simp
            refine hK _ _ ?_; clear hK K
            refine wpAnyIn_ready (rs := [1]) (by kernel_rfl) (by simp) ?_
            refine AllReadyIn.cons rfl (fun K hK => ?_) AllReadyIn.nil
            go_simp
            refine hK _ _ ?_; clear hK K
            refine wpAnyIn_ready (rs := [5]) (by kernel_rfl) (by simp) ?_
            refine AllReadyIn.cons rfl (fun K hK => ?_) AllReadyIn.nil
            refine stepIn_append_one (v := v) rfl (.tmp 28) (.tmp 31) rfl rfl (ownVb.alloc _) ⟨Wb.heap.size, 0, none⟩ (.string lt) rfl rfl (cell_new1 Wb (.string lt)) (by omega) (by simp; omega) ?_
            intro g cap w2 hown2 hgrow2 hg2
            obtain ⟨pF2, ownU2, s2, hne⟩ := app_mid2 (by omega) hzb pFb ownUb ownVb hdis hgrow2 hg2
            have cF2 := pF2.cell1
            have fF2 := pF2.frozen 1
            refine hK _ _ ?_; clear hK K
            refine wpAnyIn_ready (rs := [6]) (by kernel_rfl) (by simp) ?_
            refine AllReadyIn.cons rfl (fun K hK => ?_) AllReadyIn.nil
            go_simp
            refine hK _ _ ?_; clear hK K
            refine wpAnyIn_ready (rs := [7]) (by kernel_rfl) (by simp) ?_
            refine AllReadyIn.cons rfl (fun K hK => ?_) AllReadyIn.nil
            go_simp
            refine hK _ _ ?_; clear hK K
            refine wpAnyIn_done (by kernel_rfl) ?_ _
            exact FIN ⟨#[], []⟩ g cap w2 hown2 pF2 ownU2 (sb.trans s2) hne

  case done =>
    rintro D W hD ⟨⟨u, v, pF, pR, ownU, ownV, hdis⟩, hbW, hzW⟩ hK
    have c0 := pF.cell0
    have c1 := pF.cell1
    have r0 := pR.cell0
    have r1 := pR.cell1
    have f0 := pR.frozen 0
    have f1 := pR.frozen 1
    obtain ⟨au, cu, rfl⟩ := own_slice ownU
    obtain ⟨av, cv, rfl⟩ := own_slice ownV
    gi_wp2
    clear c0 c1 r0 r1 f0 f1
    have pR2 := (pR.set0 (.slice au (onlyOf (lsOf (splitB t))).length cu)).set1 (.slice av (exOf (lsOf (splitB t))).length cv)
    have hK2 : ((W.setCell ⟨w.heap.size, 0, none⟩ (.slice au (onlyOf (lsOf (splitB t))).length cu)).setCell ⟨w.heap.size, 1, none⟩ (.slice av (exOf (lsOf (splitB t))).length cv)).heap[D]? = some (.deferred (some [])) := by
      rw [Below.heap_setCell _ _ _ _ (by show D ≠ w.heap.size; omega), Below.heap_setCell _ _ _ _ (by show D ≠ w.heap.size; omega)]
      exact hK
    have oU2 := ownsRow_setCell_below (ownsRow_setCell_below ownU (a := ⟨w.heap.size, 0, none⟩) (by show w.heap.size < _; omega) (.slice au (onlyOf (lsOf (splitB t))).length cu)) (a := ⟨w.heap.size, 1, none⟩) (by show w.heap.size < _; omega) (.slice av (exOf (lsOf (splitB t))).length cv)
    have oV2 := ownsRow_setCell_below (ownsRow_setCell_below ownV (a := ⟨w.heap.size, 0, none⟩) (by show w.heap.size < _; omega) (.slice au (onlyOf (lsOf (splitB t))).length cu)) (a := ⟨w.heap.size, 1, none⟩) (by show w.heap.size < _; omega) (.slice av (exOf (lsOf (splitB t))).length cv)
    have hb2 := (hbW.setCell (p := ⟨w.heap.size, 0, none⟩) (Nat.le_refl _) (.slice au (onlyOf (lsOf (splitB t))).length cu)).setCell (p := ⟨w.heap.size, 1, none⟩) (Nat.le_refl _) (.slice av (exOf (lsOf (splitB t))).length cv)
    generalize (W.setCell ⟨w.heap.size, 0, none⟩ (.slice au (onlyOf (lsOf (splitB t))).length cu)).setCell ⟨w.heap.size, 1, none⟩ (.slice av (exOf (lsOf (splitB t))).length cv) = W2 at *
    refine ⟨by simp, .inl ⟨_, _, rfl, run_takeDeferred hK2, ?_⟩⟩
    have pR3 : Pair (W2.putObj D (.deferred none)) w.heap.size (.slice au (onlyOf (lsOf (splitB t))).length cu) (.slice av (exOf (lsOf (splitB t))).length cv) := (World.putObj_heap_other (by omega)).trans pR2
    have q0 := pR3.cell0
    have q1 := pR3.cell1
    refine ⟨.agg #[.slice au (onlyOf (lsOf (splitB t))).length cu, .slice av (exOf (lsOf (splitB t))).length cv], ?_, ?_⟩
    · simp [results, Tryd.results9, go_sem, q0, q1]
    · refine ⟨_, _, W1.heap.size + 3, rfl, ?_, ?_, hb2.trans (belowK_b (w := w) (Nat.le_refl _) W2 D _ _ (by omega) hK2 rfl rfl)⟩
      · rw [← lsOf_splitB t]; exact ownsRow_putObj oU2 _ hK2 rfl
      · rw [← lsOf_splitB t]; exact ownsRow_putObj oV2 _ hK2 rfl
end Go.Proofs.Qxb6600830aDoor
