/-
  Seat b6601722aD: the law: FnRenamesNameRoundTrip answers true.
-/
import Derived.Test.Qxb6601722aDoorName
namespace Go.Proofs.Qxb6601722aDoor
open Go.RowKit

/-! ### The plain law -/
theorem first_of {F : Nat → ByteArray} {x : ByteArray} {n k : Nat} {r : Int} (h : FirstP (fun j => eqs (F j) x) 0 n r) (hk : k < n) (hp : eqs (F k) x = true) (hno : NoneTo F x k) : r = (k : Int) := by
  rcases h with ⟨_, h2⟩ | ⟨k2, _, h2, h3, h4, h5⟩
  · have := h2 k (Nat.zero_le _) hk
    simp only [hp] at this
    cases this
  · rcases Nat.lt_trichotomy k2 k with h | h | h
    · have := hno k2 h
      rw [show eqs (F k2) x = true from h4] at this
      cases this
    · subst h; exact h3
    · have := h5 k (Nat.zero_le _) h
      simp only [hp] at this
      cases this
theorem first_none {F : Nat → ByteArray} {x : ByteArray} {n : Nat} {r : Int} (h : FirstP (fun j => eqs (F j) x) 0 n r) (hno : NoneTo F x n) : r = -1 := by
  rcases h with ⟨h1, _⟩ | ⟨k2, _, h2, h3, h4, h5⟩
  · exact h1
  · have := hno k2 h2
    rw [show eqs (F k2) x = true from h4] at this
    cases this
theorem first_some {F : Nat → ByteArray} {x : ByteArray} {n k : Nat} {r : Int} (h : FirstP (fun j => eqs (F j) x) 0 n r) (hk : k < n) (hp : eqs (F k) x = true) : 0 ≤ r := by
  rcases h with ⟨_, h2⟩ | ⟨k2, _, h2, h3, h4, h5⟩
  · have := h2 k (Nat.zero_le _) hk
    simp only [hp] at this
    cases this
  · omega
theorem back_of {xs ys : List ByteArray} {n k : Nat} {s : ByteArray} {b : Bool} (hd : Apart ys n n) (hk : k < n) (h : NameIs n (txt ys) (txt xs) (txt ys k) s b) : s = txt xs k ∧ b = true := by
  rcases h with ⟨k2, h1, h2, h3, h4, h5⟩ | ⟨h1, _⟩ | ⟨h1, _⟩
  · by_cases e : k2 = k
    · subst e; exact ⟨h4, h5⟩
    · rw [hd k2 h1 k hk e] at h2; cases h2
  · have := h1 k hk; rw [eqs_refl] at this; cases this
  · have := h1 k hk; rw [eqs_refl] at this; cases this
theorem keep_of {F T : Nat → ByteArray} {x s : ByteArray} {n : Nat} {b : Bool} (h1 : NoneTo F x n) (h2 : NoneTo T x n) (h : NameIs n F T x s b) : s = x ∧ b = true := by
  rcases h with ⟨k, hk, h3, _⟩ | ⟨_, ⟨k, hk, h3⟩, _⟩ | ⟨_, _, h4, h5⟩
  · rw [h1 k hk] at h3; cases h3
  · rw [h2 k hk] at h3; cases h3
  · exact ⟨h4, h5⟩

/-! ### The walk -/
set_option maxHeartbeats 8000000 in
set_option maxRecDepth 100000 in
theorem law_any (a b : Option Addr) (xs ys : List ByteArray) (c d : Nat) (x : ByteArray) (w : World) (hT : Tabs w) (hx : StrAt w.heap.size w a xs) (hy : StrAt w.heap.size w b ys) (hnil : a = none → xs.length = 0)
    (hxl : xs.length ≤ 9223372036854775807) (hyl : ys.length ≤ 9223372036854775807) (hnl : x.size ≤ 9223372036854775807) :
    Calls Tryd.prog 4 #[.slice a xs.length c, .slice b ys.length d, .string x] w fun e w' => e = .returned (.bool true) ∧ Below w.heap.size w w' := by
  have HX : Hid (StrAt w.heap.size w a xs) := hx
  have HY : Hid (StrAt w.heap.size w b ys) := hy
  have HT : Hid (Tabs w) := hT
  have HNIL : Hid (a = none → xs.length = 0) := hnil
  clear hx hy hT hnil
  have c12 := bytes_any w.heap.size a b xs ys c d x w HX.out HY.out hxl hyl hnl
  generalize hG : xs.length = n at *
  generalize hG2 : ys.length = n2 at *
  have HG : Hid (xs.length = n) := hG
  have HG2 : Hid (ys.length = n2) := hG2
  clear hG hG2
  go_enter Tryd.func4, Tryd.ntmps4
  go_wp2_with fail
  refine c12.mono ?_
  rintro e w' ⟨b1, rfl, hb1, hw'⟩
  have hw'' := hw'.symm
  subst hw''
  clear hw' c12
  cases b1 with
  | false =>
    clear hb1
    go_wp2_with fail
    go_ret
    exact ⟨rfl, Below.refl _ _⟩
  | true =>
    obtain ⟨hn, hn2, hfx, hfy, hxz⟩ := hb1 rfl
    clear hb1
    rw [HG.out] at hn hfx
    rw [HG2.out] at hn2 hfy
    have HFX : Hid (Fit xs n) := hfx
    have HFY : Hid (Fit ys n2) := hfy
    clear hfx hfy
    go_wp2_with fail
    have c13 := size_any w.heap.size a xs c w HX.out (by rw [HG.out]; omega) (by rw [HG.out]; exact HFX.out)
    rw [HG.out] at c13
    refine c13.mono ?_
    rintro e w' ⟨m1, rfl, hm1, hw'⟩
    have hw'' := hw'.symm
    subst hw''
    clear hw' c13
    go_wp2_with fail
    have c13 := size_any w.heap.size b ys d w HY.out (by rw [HG2.out]; omega) (by rw [HG2.out]; exact HFY.out)
    rw [HG2.out] at c13
    refine c13.mono ?_
    rintro e w' ⟨m2, rfl, hm2, hw'⟩
    have hw'' := hw'.symm
    subst hw''
    clear hw' c13
    go_wp2_with fail
    refine (cap_any x.size w (by omega)).mono ?_
    rintro e w' ⟨m3, rfl, hm3, hw'⟩
    have hw'' := hw'.symm
    subst hw''
    clear hw'
    by_cases hsum : m1 + m2 + m3 ≤ 1048576
    · by_cases hlen : n ≤ 4096
      · by_cases heq : n2 = n
        · have heq' : n = n2 := heq.symm
          subst heq'
          clear heq
          have HYX : Hid (ys.length = xs.length) := by show _ = _; rw [HG.out, HG2.out]
          have HSH : Hid (Short n (txt xs) (txt ys)) := fun j hj => ⟨HFX.out j hj, HFY.out j hj⟩
          have he : ((n : Int) == (n : Int)) = true := by simp
          have he2 : ((n : Int) != (n : Int)) = false := by simp
          go_wp2_with fail
          have c15 := dist_any w.heap.size b ys d w HT.out HY.out (Nat.le_refl _) (by rw [HG2.out]; omega) (by rw [HG2.out]; exact HFY.out)
          rw [HG2.out] at c15
          refine c15.mono ?_
          rintro e W1 ⟨b2, rfl, hb2, hB1⟩
          clear c15
          cases b2 with
          | false =>
            clear hb2
            go_wp2_with fail
            go_ret
            exact ⟨rfl, hB1⟩
          | true =>
            have HA : Hid (Apart ys n n) := hb2 rfl
            clear hb2
            go_wp2_with fail
            have c16 := make_any w.heap.size a b xs ys c d W1 (HX.out.below hB1) (HY.out.below hB1) hB1.size (by rw [HG.out]; omega) HYX.out (fun h => by rw [HG.out]; exact HNIL.out h)
            rw [HG2.out, HG.out] at c16
            refine c16.mono ?_
            rintro e W2 ⟨ra, rc, rfl, hren, hW2⟩
            have HREN : Hid (RenAt W2.heap.size W2 ra n (txt xs) (txt ys)) := hren
            have hB2 : Below w.heap.size w W2 := hB1.trans (hW2.mono hB1.size)
            clear c16 hren hW2
            go_wp2_with fail
            have c17 := first_any w.heap.size a xs c x W2 (HT.out.below hB2) (HX.out.below hB2) hB2.size (by rw [HG.out]; omega) (by rw [HG.out]; exact HFX.out) hxz
            rw [HG.out] at c17
            refine c17.mono ?_
            rintro e W3 ⟨r, rfl, hr, hW3⟩
            have HR : Hid (FirstP (fun j => eqs (txt xs j) x) 0 n r) := hr
            have hrb := hr.bounds
            have HREN3 : Hid (RenAt W2.heap.size W3 ra n (txt xs) (txt ys)) := HREN.out.below hW3
            have hS3 := hW3.size
            have hB3 : Below w.heap.size w W3 := hB2.trans (hW3.mono hB2.size)
            clear c17 hr hW3
            go_wp2_with fail
            refine (name_any W2.heap.size ra n (txt xs) (txt ys) rc x W3 (HT.out.below hB3) HREN3.out hS3 hlen HSH.out hxz).mono ?_
            rintro e W4 ⟨s, bb, rfl, hname, hW4⟩
            have HREN4 : Hid (RenAt W2.heap.size W4 ra n (txt xs) (txt ys)) := HREN3.out.below (hW4.mono hS3)
            have hS4 : W2.heap.size ≤ W4.heap.size := Nat.le_trans hS3 hW4.size
            have hB4 : Below w.heap.size w W4 := hB3.trans (hW4.mono hB3.size)
            clear hW4
            rcases hname with ⟨k, hk, hk1, hk2, hs, hbb⟩ | ⟨hno, ⟨k, hk, hk1⟩, hs, hbb⟩ | ⟨hno, hno2, hs, hbb⟩
            · have hrk := first_of HR.out hk hk1 hk2
              subst hbb hrk
              have hsz := HSH.out k hk
              rw [← hs] at hsz
              have HKS : Hid (s = txt ys k) := hs
              have HK1 : Hid (eqs (txt xs k) x = true) := hk1
              clear hs hk1 hk2
              go_wp2_with fail
              refine (rev_any W2.heap.size ra n (txt xs) (txt ys) rc W4 HREN4.out hS4 hlen).mono ?_
              rintro e W5 ⟨ra2, rc2, rfl, hren, hW5⟩
              have HREN5 : Hid (RenAt W5.heap.size W5 ra2 n (txt ys) (txt xs)) := hren
              have hB5 : Below w.heap.size w W5 := hB4.trans (hW5.mono hB4.size)
              clear hren hW5
              go_wp2_with fail
              refine (name_any W5.heap.size ra2 n (txt ys) (txt xs) rc2 s W5 (HT.out.below hB5) HREN5.out (Nat.le_refl _) hlen (fun j hj => ⟨(HSH.out j hj).2, (HSH.out j hj).1⟩) hsz.2).mono ?_
              rintro e W6 ⟨s2, bb2, rfl, hname2, hW6⟩
              have hB6 : Below w.heap.size w W6 := hB5.trans (hW6.mono hB5.size)
              clear hW6
              rw [HKS.out] at hname2
              obtain ⟨hs2, hbb2⟩ := back_of HA.out hk hname2
              subst hbb2
              clear hname2
              obtain ⟨ab, off, rfl, hb, hcell⟩ := (HY.out.below hB6) k (by rw [HG2.out]; exact hk)
              obtain ⟨ab2, off2, rfl, hbx, hcell2⟩ := (HX.out.below hB6) k (by rw [HG.out]; exact hk)
              rw [← HKS.out] at hcell
              rw [← hs2] at hcell2 HK1 hsz
              clear hs2
              have cE := eqs_any s2 x 0 w W6 HT.out hB6 hsz.1 hxz
              rw [HK1.out] at cE
              have hkn : (k : Int) < (n : Int) := by omega
              have hk0 : ¬ ((k : Int) < 0) := by omega
              go_wp2_with fail
              refine cE.mono ?_
              rintro e W7 ⟨rfl, _, hB7⟩
              clear cE
              go_wp2_with fail
              go_ret
              exact ⟨rfl, hB7⟩
            · have hrk := first_none HR.out hno
              have hs' : s = ⟨#[]⟩ := hs
              subst hbb hrk hs'
              have HK1 : Hid (eqs (txt ys k) x = true) := hk1
              clear hs hno hk1
              have c17 := first_any w.heap.size b ys d x W4 (HT.out.below hB4) (HY.out.below hB4) hB4.size (by rw [HG2.out]; omega) (by rw [HG2.out]; exact HFY.out) hxz
              rw [HG2.out] at c17
              go_wp2_with fail
              refine c17.mono ?_
              rintro e W5 ⟨r5, rfl, hr5, hW5⟩
              have hr50 := first_some (F := txt ys) hr5 hk HK1.out
              have hB5 : Below w.heap.size w W5 := hB4.trans (hW5.mono hB4.size)
              clear hr5 hW5 c17
              go_wp2_with fail
              go_ret
              exact ⟨rfl, hB5⟩
            · have hrk := first_none HR.out hno
              subst hbb hrk hs
              have HN1 : Hid (NoneTo (txt xs) s n) := hno
              have HN2 : Hid (NoneTo (txt ys) s n) := hno2
              clear hno hno2
              go_wp2_with fail
              refine (rev_any W2.heap.size ra n (txt xs) (txt ys) rc W4 HREN4.out hS4 hlen).mono ?_
              rintro e W5 ⟨ra2, rc2, rfl, hren, hW5⟩
              have HREN5 : Hid (RenAt W5.heap.size W5 ra2 n (txt ys) (txt xs)) := hren
              have hB5 : Below w.heap.size w W5 := hB4.trans (hW5.mono hB4.size)
              clear hren hW5
              go_wp2_with fail
              refine (name_any W5.heap.size ra2 n (txt ys) (txt xs) rc2 s W5 (HT.out.below hB5) HREN5.out (Nat.le_refl _) hlen (fun j hj => ⟨(HSH.out j hj).2, (HSH.out j hj).1⟩) hxz).mono ?_
              rintro e W6 ⟨s2, bb2, rfl, hname2, hW6⟩
              have hB6 : Below w.heap.size w W6 := hB5.trans (hW6.mono hB5.size)
              clear hW6
              obtain ⟨hs2, hbb2⟩ := keep_of HN2.out HN1.out hname2
              subst hbb2 hs2
              clear hname2
              go_wp2_with fail
              have c17 := first_any w.heap.size b ys d s2 W6 (HT.out.below hB6) (HY.out.below hB6) hB6.size (by rw [HG2.out]; omega) (by rw [HG2.out]; exact HFY.out) hxz
              rw [HG2.out] at c17
              refine c17.mono ?_
              rintro e W7 ⟨r7, rfl, hr7, hW7⟩
              have hr70 := first_none (F := txt ys) hr7 HN2.out
              subst hr70
              have hB7 : Below w.heap.size w W7 := hB6.trans (hW7.mono hB6.size)
              clear c17 hr7 hW7
              go_wp2_with fail
              go_ret
              exact ⟨rfl, hB7⟩
        · have he : ((n : Int) == (n2 : Int)) = false := beq_eq_false_iff_ne.2 (by omega)
          have he2 : ((n : Int) != (n2 : Int)) = true := by simp; omega
          go_wp2_with fail
          go_ret
          exact ⟨rfl, Below.refl _ _⟩
      · go_wp2_with fail
        go_ret
        exact ⟨rfl, Below.refl _ _⟩
    · go_wp2_with fail
      go_ret
      exact ⟨rfl, Below.refl _ _⟩
end Go.Proofs.Qxb6601722aDoor
