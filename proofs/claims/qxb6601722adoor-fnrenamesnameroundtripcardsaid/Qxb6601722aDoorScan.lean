/-
  Seat b6601722aD: the walks that scan by strings.EqualFold: zzSchB1FirstFold, zzSchB1FoldDistinct, (Renames).Name.
-/
import Derived.Test.Qxb6601722aDoorEq
import Derived.Test.Qxb6601722aDoorRen
import Derived.Deep.RegionWith
namespace Go.Proofs.Qxb6601722aDoor
open Go.RowKit

/-- A world that has grown out of w. -/
structure Ext (w : World) where
  g : World
  h : Below w.heap.size w g
/-- a region that draws its order, whose operations write nothing old: one walk in the order of the text -/
theorem region_ext {P : Program} {id : Nat} {Q : Exit → Act → World → Prop} {a : Act} {w : World} {l : List Oper} (hm : P.follows .mixedOrders = true) (hB : Region.lexB .any l.toArray = true)
    (h : wpQuiet P l.toArray (fun w' => ∃ g : Ext w, w' = g.g) (fun a' => ∀ w', (∃ g : Ext w, w' = g.g) → Q .normal a' w') l a) : (Code.region id l.toArray true).wp P Q a w :=
  wp_region_quiet (C := fun w' => ∃ g : Ext w, w' = g.g) hm hB ⟨⟨{ w with drawn := w.drawn + 1 }, ⟨rfl, rfl, rfl, Nat.le_refl _, fun _ _ => rfl⟩⟩, rfl⟩ (by simpa using h)

/-- what strings.EqualFold answers -/
def eqs (x y : ByteArray) : Bool := ef x.data.toList y.data.toList
theorem eqs_refl (x : ByteArray) : eqs x x = true := ef_refl _
theorem eqs_any (s t : ByteArray) (B : Nat) (w₀ w : World) (hT : Tabs w₀) (hw : Below w₀.heap.size w₀ w) (hs : s.size ≤ 1048576) (ht : t.size ≤ 1048576) :
    Calls Tryd.prog 20 #[.string s, .string t] w fun e w' => e = .returned (.bool (eqs s t)) ∧ (B ≤ w.heap.size → Below B w w') ∧ Below w₀.heap.size w₀ w' := by
  refine (ef_any s t w (hT.below hw) (by omega) (by omega)).mono ?_
  rintro e w' ⟨rfl, hb⟩
  exact ⟨rfl, fun h => hb.mono h, hw.trans (hb.mono hw.size)⟩

/-- r is the first place in lo .. n - 1 at which p holds, or -1 -/
def FirstP (p : Nat → Bool) (lo n : Nat) (r : Int) : Prop :=
  (r = -1 ∧ ∀ j, lo ≤ j → j < n → p j = false) ∨ ∃ k : Nat, lo ≤ k ∧ k < n ∧ r = (k : Int) ∧ p k = true ∧ ∀ j, lo ≤ j → j < k → p j = false
theorem FirstP.last (p : Nat → Bool) (n : Nat) : FirstP p n n (-1) := .inl ⟨rfl, fun j h1 h2 => by omega⟩
theorem FirstP.hit {p : Nat → Bool} {lo n : Nat} (h : p lo = true) (hl : lo < n) : FirstP p lo n (lo : Int) := .inr ⟨lo, Nat.le_refl _, hl, rfl, h, fun j h1 h2 => by omega⟩
theorem FirstP.miss {p : Nat → Bool} {lo n : Nat} {r : Int} (h : FirstP p (lo + 1) n r) (hp : p lo = false) : FirstP p lo n r := by
  have hj : ∀ m, (∀ j, lo + 1 ≤ j → j < m → p j = false) → ∀ j, lo ≤ j → j < m → p j = false := fun m hm j h1 h2 => by
    by_cases e : j = lo
    · subst e; exact hp
    · exact hm j (by omega) h2
  rcases h with ⟨h1, h2⟩ | ⟨k, h1, h2, h3, h4, h5⟩
  · exact .inl ⟨h1, hj n h2⟩
  · exact .inr ⟨k, by omega, h2, h3, h4, hj k h5⟩
theorem FirstP.bounds {p : Nat → Bool} {lo n : Nat} {r : Int} (h : FirstP p lo n r) : -1 ≤ r ∧ r ≤ n := by
  rcases h with ⟨h1, h2⟩ | ⟨k, h1, h2, h3, h4, h5⟩ <;> omega

def RetFirst (p : Nat → Bool) (n : Nat) (w : World) (e : Ending) (w' : World) : Prop := ∃ r : Int, e = .returned (.int .i64 r) ∧ FirstP p 0 n r ∧ Below w.heap.size w w'

set_option maxHeartbeats 2000000 in
theorem first_any (n₀ : Nat) (a : Option Addr) (xs : List ByteArray) (c : Nat) (x : ByteArray) (w : World) (hT : Tabs w) (hx : StrAt n₀ w a xs) (hn₀ : n₀ ≤ w.heap.size) (hxl : xs.length ≤ 1048576) (hf : Fit xs xs.length) (hxs : x.size ≤ 1048576) :
    Calls Tryd.prog 17 #[.slice a xs.length c, .string x] w fun e w' => RetFirst (fun j => eqs (txt xs j) x) xs.length w e w' := by
  have HX : Hid (StrAt n₀ w a xs) := hx
  have HF : Hid (Fit xs xs.length) := hf
  have HT : Hid (Tabs w) := hT
  clear hx hf hT
  generalize hG : xs.length = n at *
  have HG : Hid (xs.length = n) := hG
  clear hG
  go_enter Tryd.func17, Tryd.ntmps17
  go_wp2
  go_loopg [5, 6] n (fun g s5 s6 wr => ∃ r : Int, s6 = .int .i64 ((g : Int) - 1) ∧ s5 = .int .i64 r ∧ g ≤ n ∧ FirstP (fun j => eqs (txt xs j) x) g n r ∧ Below w.heap.size w wr)
  case atStart => exact ⟨-1, by go_num, rfl, Nat.le_refl _, FirstP.last _ _, Below.refl _ _⟩
  case round =>
    obtain ⟨r, rfl, rfl, hgn, hfp, hbl⟩ := hrel
    have hbd := hfp.bounds
    have HFP : Hid (FirstP (fun j => eqs (txt xs j) x) gk n r) := hfp
    clear hfp
    cases gk with
    | zero =>
      go_wp2
      go_ret
      exact ⟨r, rfl, HFP.out, hbl⟩
    | succ g =>
      obtain ⟨ab, off, rfl, hb, hcell0⟩ := HX.out g (by rw [HG.out]; omega)
      have hcell : wr.cell? ⟨ab, off + g, none⟩ = some (.string (txt xs g)) := (hbl.cell (p := ⟨ab, off + g, none⟩) (by show ab < _; omega)).trans hcell0
      clear hcell0
      have hsz := HF.out g (by omega)
      obtain ⟨s, hs⟩ : ∃ s, txt xs g = s := ⟨_, rfl⟩
      rw [hs] at hcell hsz
      have HS : Hid (txt xs g = s) := hs
      clear hs
      have cE := eqs_any s x 0 w wr HT.out hbl hsz hxs
      obtain ⟨B, hB⟩ : ∃ B, eqs s x = B := ⟨_, rfl⟩
      rw [hB] at cE
      have HB : Hid (eqs s x = B) := hB
      clear hB
      have hg1 : (((g + 1 : Nat) : Int) - 1) = (g : Int) := by omega
      rw [hg1]
      clear hg1
      cases B with
      | true =>
        go_wp2_with (go_at_call 20; refine cE.mono ?_; rintro e w2 ⟨rfl, hb2, hbl2⟩)
        go_roundg g
        case measure => omega
        case rel => exact ⟨(g : Int), by go_num, rfl, by omega, FirstP.hit (p := fun j => eqs (txt xs j) x) (by show eqs (txt xs g) x = true; rw [HS.out]; exact HB.out) (by omega), hbl2⟩
      | false =>
        go_wp2_with (go_at_call 20; refine cE.mono ?_; rintro e w2 ⟨rfl, hb2, hbl2⟩)
        go_roundg g
        case measure => omega
        case rel => exact ⟨r, by go_num, rfl, by omega, HFP.out.miss (by show eqs (txt xs g) x = false; rw [HS.out]; exact HB.out), hbl2⟩

/-- rows 0 .. i - 1 are told apart from every other place; and row i from the places 0 .. j - 1 -/
def Apart (xs : List ByteArray) (n i : Nat) : Prop := ∀ k, k < i → ∀ j, j < n → k ≠ j → eqs (txt xs k) (txt xs j) = false
def ApartRow (xs : List ByteArray) (i m : Nat) : Prop := ∀ j, j < m → i ≠ j → eqs (txt xs i) (txt xs j) = false
theorem Apart.zero (xs : List ByteArray) (n : Nat) : Apart xs n 0 := fun k hk => absurd hk (Nat.not_lt_zero k)
theorem ApartRow.zero (xs : List ByteArray) (i : Nat) : ApartRow xs i 0 := fun k hk => absurd hk (Nat.not_lt_zero k)
theorem Apart.succ {xs : List ByteArray} {n i : Nat} (h : Apart xs n i) (h2 : ApartRow xs i n) : Apart xs n (i + 1) := fun k hk j hj hne => by
  by_cases e : k = i
  · subst e; exact h2 j hj hne
  · exact h k (by omega) j hj hne
theorem ApartRow.succ {xs : List ByteArray} {i m : Nat} (h : ApartRow xs i m) (h2 : i ≠ m → eqs (txt xs i) (txt xs m) = false) : ApartRow xs i (m + 1) := fun j hj hne => by
  by_cases e : j = m
  · subst e; exact h2 hne
  · exact h j (by omega) hne

def RetDist (xs : List ByteArray) (n : Nat) (w : World) (e : Ending) (w' : World) : Prop := ∃ b : Bool, e = .returned (.bool b) ∧ (b = true → Apart xs n n) ∧ Below w.heap.size w w'

set_option maxHeartbeats 2000000 in
theorem dist_any (n₀ : Nat) (a : Option Addr) (xs : List ByteArray) (c : Nat) (w : World) (hT : Tabs w) (hx : StrAt n₀ w a xs) (hn₀ : n₀ ≤ w.heap.size) (hxl : xs.length ≤ 1048576) (hf : Fit xs xs.length) :
    Calls Tryd.prog 15 #[.slice a xs.length c] w fun e w' => RetDist xs xs.length w e w' := by
  have HX : Hid (StrAt n₀ w a xs) := hx
  have HF : Hid (Fit xs xs.length) := hf
  have HT : Hid (Tabs w) := hT
  clear hx hf hT
  generalize hG : xs.length = n at *
  have HG : Hid (xs.length = n) := hG
  clear hG
  go_enter Tryd.func15, Tryd.ntmps15
  go_wp2
  go_loopg [3] n (fun g s3 wr => ∃ i : Nat, s3 = .int .i64 i ∧ i + g = n ∧ Apart xs n i ∧ Below w.heap.size w wr)
  case atStart => exact ⟨0, rfl, by omega, Apart.zero _ _, Below.refl _ _⟩
  case round =>
    obtain ⟨i, rfl, hin, hap, hbl⟩ := hrel
    have HA : Hid (Apart xs n i) := hap
    clear hap
    cases gk with
    | zero =>
      obtain rfl : i = n := by omega
      go_wp2
      go_ret
      exact ⟨true, rfl, fun _ => HA.out, hbl⟩
    | succ g =>
      have hil : (i : Int) < (n : Int) := by omega
      go_wp2
      go_loopg [4] n (fun g2 s4 wr2 => ∃ j : Nat, s4 = .int .i64 j ∧ j + g2 = n ∧ ApartRow xs i j ∧ Below w.heap.size w wr2)
      case atStart => exact ⟨0, rfl, by omega, ApartRow.zero _ _, hbl⟩
      case round =>
        obtain ⟨j, rfl, hjn, hap, hbl2⟩ := hrel
        have HR : Hid (ApartRow xs i j) := hap
        clear hap
        cases gk with
        | zero =>
          obtain rfl : j = n := by omega
          go_wp2
          go_roundg g
          case measure => omega
          case rel => exact ⟨i + 1, by go_num, by omega, HA.out.succ HR.out, hbl2⟩
        | succ g2 =>
          have hjl : (j : Int) < (n : Int) := by omega
          have hi0 : (0 : Int) ≤ (i : Int) := by omega
          have hj0 : (0 : Int) ≤ (j : Int) := by omega
          by_cases hij : i = j
          · subst hij
            have hne : ((i : Int) != (i : Int)) = false := by simp
            go_wp2
            go_quiet (fail)
            go_wp2
            go_roundg g2
            case measure => omega
            case rel => exact ⟨i + 1, by go_num, by omega, HR.out.succ (fun h => absurd rfl h), below_drewN hbl2 _⟩
          · have hne : ((i : Int) != (j : Int)) = true := by simp; omega
            have hne2 : ((i : Int) == (j : Int)) = false := beq_eq_false_iff_ne.2 (by omega)
            obtain ⟨ab, off, rfl, hb, hcell0⟩ := HX.out i (by rw [HG.out]; omega)
            obtain ⟨ab2, off2, e2, hb2, hcell20⟩ := HX.out j (by rw [HG.out]; omega)
            cases e2
            have hcell : ∀ g : Ext wr, g.g.cell? ⟨ab, off + i, none⟩ = some (.string (txt xs i)) := fun g => ((hbl2.trans (g.h.mono hbl2.size)).cell (p := ⟨ab, off + i, none⟩) (by show ab < _; omega)).trans hcell0
            have hcell2 : ∀ g : Ext wr, g.g.cell? ⟨ab, off + j, none⟩ = some (.string (txt xs j)) := fun g => ((hbl2.trans (g.h.mono hbl2.size)).cell (p := ⟨ab, off + j, none⟩) (by show ab < _; omega)).trans hcell20
            clear hcell0 hcell20
            have hsz := HF.out i (by omega)
            have hsz2 := HF.out j (by omega)
            obtain ⟨s, hs⟩ : ∃ s, txt xs i = s := ⟨_, rfl⟩
            obtain ⟨t, ht⟩ : ∃ t, txt xs j = t := ⟨_, rfl⟩
            rw [hs] at hcell hsz
            rw [ht] at hcell2 hsz2
            have HS : Hid (txt xs i = s) := hs
            have HS2 : Hid (txt xs j = t) := ht
            clear hs ht
            obtain ⟨B, hB⟩ : ∃ B, eqs s t = B := ⟨_, rfl⟩
            have cE : ∀ g : Ext wr, Calls Tryd.prog 20 #[.string s, .string t] g.g fun e w' => e = .returned (.bool B) ∧ ∃ g' : Ext wr, w' = g'.g := fun g => by
              refine (eqs_any s t wr.heap.size w g.g HT.out (hbl2.trans (g.h.mono hbl2.size)) hsz hsz2).mono ?_
              rintro e w' ⟨rfl, hh, _⟩
              rw [hB]
              exact ⟨rfl, ⟨w', g.h.trans (hh g.h.size)⟩, rfl⟩
            have HB : Hid (eqs s t = B) := hB
            clear hB
            have hinst : Nonempty (Ext wr) := ⟨⟨wr, Below.refl _ _⟩⟩
            cases B with
            | true =>
              go_wp2
              refine region_ext (by kernel_rfl) (by kernel_rfl) ?_
              repeat (go_big_quiet_step (exact cE _))
              refine wpQuiet_nil ?_
              rintro _ ⟨g, rfl⟩
              clear hcell hcell2 cE
              go_wp2
              go_ret
              exact ⟨false, rfl, by simp, hbl2.trans (g.h.mono hbl2.size)⟩
            | false =>
              go_wp2
              refine region_ext (by kernel_rfl) (by kernel_rfl) ?_
              repeat (go_big_quiet_step (exact cE _))
              refine wpQuiet_nil ?_
              rintro _ ⟨g, rfl⟩
              clear hcell hcell2 cE
              go_wp2
              go_roundg g2
              case measure => omega
              case rel => exact ⟨j + 1, by go_num, by omega, HR.out.succ (fun _ => by rw [HS.out, HS2.out]; exact HB.out), hbl2.trans (g.h.mono hbl2.size)⟩
end Go.Proofs.Qxb6601722aDoor
