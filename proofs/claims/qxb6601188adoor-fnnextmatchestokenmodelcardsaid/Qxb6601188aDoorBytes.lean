/-
  Seat b6601188aD: slices of bytes: zzClone, the bounds, ZZNext.
-/
import Derived.Test.Qxb6601188aDoorNext
namespace Go.Proofs.Qxb6601188aDoor
open Go.RowKit

/-- THE SLICE AT a HOLDS THE BYTES bs, in a block below n₀. -/
def ByAt (n₀ : Nat) (W : World) (a : Option Addr) (bs : List UInt8) : Prop :=
  ∀ j, j < bs.length → ∃ b off, a = some ⟨b, off, none⟩ ∧ b < n₀ ∧ W.cell? ⟨b, off + j, none⟩ = some (.int .u8 (bs.getD j 0).toNat)

theorem ByAt.below {n₀ : Nat} {A B : World} {a : Option Addr} {xs : List UInt8} (h : ByAt n₀ A a xs) (hb : Below n₀ A B) : ByAt n₀ B a xs := fun j hj => by
  obtain ⟨b, off, e, hlt, hc⟩ := h j hj
  exact ⟨b, off, e, hlt, (hb.cell (p := ⟨b, off + j, none⟩) hlt).trans hc⟩
theorem ByAt.mono {n₀ n₁ : Nat} {A : World} {a : Option Addr} {xs : List UInt8} (h : ByAt n₀ A a xs) (hn : n₀ ≤ n₁) : ByAt n₁ A a xs := fun j hj => by
  obtain ⟨b, off, e, hlt, hc⟩ := h j hj
  exact ⟨b, off, e, by omega, hc⟩

theorem info5 : (Tryd.prog.info? 5).map (fun i => (i.zero, i.size, i.bytes)) = some (some (.int .u8 0), 1, 1) := by kernel_rfl

def bv (l : List UInt8) : List Value := l.map fun c => .int .u8 c.toNat

def RetClone (xs : List UInt8) (w : World) (e : Ending) (w' : World) : Prop :=
  ∃ a', e = .returned (.slice a' xs.length xs.length) ∧ ByAt w'.heap.size w' a' xs ∧ Below w.heap.size w w'

theorem clone_done {B n : Nat} {wr : World} {xs : List UInt8} {L : List Value} (hn : n = xs.length) (hown : wr.ownsRow B 5 1 (.slice (some ⟨B, 0, none⟩) n n) n L) (hL : ∀ j, j < n → L[j]? = some (.int .u8 (xs.getD j 0).toNat)) :
    ByAt wr.heap.size wr (some ⟨B, 0, none⟩) xs := fun j hj => by
  have hlt := (hown.lt B rfl).2
  refine ⟨B, 0, rfl, hlt, ?_⟩
  rw [Nat.zero_add, hown.cellAt j (by omega), hL j (by omega)]

set_option maxHeartbeats 1000000 in
theorem clone_any (n₀ : Nat) (a : Option Addr) (xs : List UInt8) (c : Nat) (w : World) (hx : ByAt n₀ w a xs) (hn₀ : n₀ ≤ w.heap.size) (hxl : xs.length ≤ 1048576) (hnil : a = none → xs.length = 0) :
    Calls Tryd.prog 8 #[.slice a xs.length c] w fun e w' => RetClone xs w e w' := by
  have q22 : ∀ (w : World) (a : Option Addr) (n c n' c' : Nat), (binOp .eql 22 (.slice a n c) (.slice none n' c')).run Tryd.prog w = .ok (.bool a.isNone) w := fun w a n c n' c' => Lib.run_eql_slice_nil w _ _ a n c n' c' Tryd.underlying22
  obtain ⟨i0, hi, hz0, hz1, hz2⟩ := info_parts info5
  cases a with
  | none =>
    have h0 := hnil rfl
    go_enter Tryd.func8, Tryd.ntmps8
    go_wp2
    go_ret
    exact ⟨none, by rw [h0]; rfl, fun j hj => by omega, Below.refl _ _⟩
  | some ad =>
    generalize hG : xs.length = n at *
    have HG : Hid (xs.length = n) := hG
    clear hG
    go_enter Tryd.func8, Tryd.ntmps8
    go_wp2_with (at_make; refine wpList_make_full _ rfl _ _ 22 rfl w.heap.size 5 i0 (.int .u8 0) 1 Tryd.underlying22 hi hz0 hz1 _ _ _ _ n rfl rfl rfl rfl (by rw [hz2]; omega) (by unfold maxLen; omega) (Nat.le_refl _) ?_; intro w1 hown1 hgrow1)
    have hb1 : Below w.heap.size w w1 := (Below.refl _ w).grown hgrow1 (Nat.le_refl _) (fun k e => by cases e)
    clear hgrow1
    go_loopw [4] (fun i wr => ∃ (k : Nat) (L : List Value), k ≤ n ∧ i = .int .i64 k ∧ wr.ownsRow w.heap.size 5 1 (.slice (some ⟨w.heap.size, 0, none⟩) n n) n L ∧ (∀ j, j < k → L[j]? = some (.int .u8 (xs.getD j 0).toNat)) ∧ Below w.heap.size w wr) (fun i _ => n - (intOf i).toNat)
    case atStart => exact ⟨0, _, Nat.zero_le _, rfl, hown1, fun j hj => absurd hj (Nat.not_lt_zero _), hb1⟩
    case round =>
      obtain ⟨k, L, hk, rfl, hown, hL, hbl⟩ := hrel
      have HL : Hid (∀ j, j < k → L[j]? = some (.int .u8 (xs.getD j 0).toNat)) := hL
      clear hL
      by_cases hlt : k < n
      · obtain ⟨b, off, e, hb, hcell0⟩ := hx k (by rw [HG.out]; exact hlt)
        cases e
        have hcell : wr.cell? ⟨b, off + k, none⟩ = some (.int .u8 (xs.getD k 0).toNat) := (hbl.cell (p := ⟨b, off + k, none⟩) (by show b < _; omega)).trans hcell0
        clear hcell0
        have hLl : L.length = n := by simpa using hown.1
        obtain ⟨old, hold⟩ : ∃ old, wr.cell? ⟨w.heap.size, k, none⟩ = some old := ⟨_, (hown.cellAt k (by omega)).trans (List.getElem?_eq_getElem (by omega))⟩
        have hfz := hown.frozenAt k
        have HO : Hid (wr.ownsRow w.heap.size 5 1 (.slice (some ⟨w.heap.size, 0, none⟩) n n) n L) := hown
        clear hown
        generalize hS : (xs.getD k 0).toNat = s at hcell
        have HS : Hid ((xs.getD k 0).toNat = s) := hS
        clear hS
        go_wp2
        go_roundw
        case rel =>
          refine ⟨k + 1, L.set k (.int .u8 s), by omega, by go_num, (HO.out.stored k (.int .u8 s)).1, fun j hj => ?_, hbl.setCell (p := ⟨w.heap.size, k, none⟩) (Nat.le_refl _) _⟩
          by_cases e : j = k
          · subst e
            rw [List.getElem?_set_self (by omega), HS.out]
          · rw [List.getElem?_set_ne (by omega)]
            exact HL.out j (by omega)
        case measure => simp [intOf]; omega
      · have e : k = n := by omega
        subst e
        have HO : Hid (wr.ownsRow w.heap.size 5 1 (.slice (some ⟨w.heap.size, 0, none⟩) k k) k L) := hown
        clear hown
        go_wp2
        go_ret
        exact ⟨some ⟨w.heap.size, 0, none⟩, by rw [HG.out]; rfl, clone_done HG.out.symm HO.out HL.out, hbl⟩

def RetB (P : Prop) (w : World) (e : Ending) (w' : World) : Prop := ∃ b : Bool, e = .returned (.bool b) ∧ (b = true → P) ∧ w' = w

set_option maxHeartbeats 1000000 in
theorem bytes2_any (a a2 : Option Addr) (n m c c2 : Nat) (w : World) (hn : n ≤ 9223372036854775807) (hm : m ≤ 9223372036854775807) :
    Calls Tryd.prog 13 #[.slice a n c, .slice a2 m c2] w fun e w' => RetB (n + m ≤ 1048576) w e w' := by
  by_cases h1 : n ≤ 1048576
  · by_cases h2 : m ≤ 1048576
    · by_cases h3 : n + m ≤ 1048576
      · go_enter Tryd.func13, Tryd.ntmps13
        go_wp2
        go_ret
        exact ⟨true, rfl, fun _ => h3, rfl⟩
      · go_enter Tryd.func13, Tryd.ntmps13
        go_wp2
        go_ret
        exact ⟨false, rfl, by simp, rfl⟩
    · go_enter Tryd.func13, Tryd.ntmps13
      go_wp2
      go_ret
      exact ⟨false, rfl, by simp, rfl⟩
  · go_enter Tryd.func13, Tryd.ntmps13
    go_wp2
    go_ret
    exact ⟨false, rfl, by simp, rfl⟩

set_option maxHeartbeats 1000000 in
theorem bytes1_any (a : Option Addr) (n c : Nat) (k : Int) (w : World) (hn : n ≤ 9223372036854775807) :
    Calls Tryd.prog 7 #[.slice a n c, .int .i64 k] w fun e w' => RetB (n ≤ 1048576) w e w' := by
  by_cases h1 : n ≤ 1048576
  · go_enter Tryd.func7, Tryd.ntmps7
    go_wp2
    go_ret
    exact ⟨true, rfl, fun _ => h1, rfl⟩
  · go_enter Tryd.func7, Tryd.ntmps7
    go_wp2
    go_ret
    exact ⟨false, rfl, by simp, rfl⟩

/-! ### ZZNext -/
def RetZ (w : World) (b o c p e : Nat) (bs : List UInt8) (e' : Ending) (w' : World) : Prop :=
  e' = .returned (.tuple #[.int .u8 (bs.getD p 0).toNat, .slice (some ⟨b, o + p, none⟩) (e - p) (c - p), .int .i64 e]) ∧ Below w.heap.size w w'

set_option maxHeartbeats 1000000 in
theorem zznext_any (w : World) (b o n c k p e : Nat) (bs : List UInt8) (hn : bs.length = n) (hl : Lies w b o bs) (hb : b < w.heap.size) (hk : k ≤ n) (hc : n ≤ c) (hbig : c ≤ 9223372036854775807) (hnb : n ≤ 4611686018427387904)
    (hpp : p = k + past blanks (bs.drop k)) (hpn : p < n) (he : tokEnd bs p = some e) :
    Calls Tryd.prog 11 #[.slice (some ⟨b, o, none⟩) n c, .int .i64 k] w fun e' w' => RetZ w b o c p e bs e' w' := by
  have hbl : Below w.heap.size w (w.alloc (.cells #[.slice (some ⟨b, o, none⟩) n c, .int .i64 k] 37)) := (Below.refl _ w).alloc (Nat.le_refl _) _
  have hpair : Pair (w.alloc (.cells #[.slice (some ⟨b, o, none⟩) n c, .int .i64 k] 37)) w.heap.size (.slice (some ⟨b, o, none⟩) n c) (.int .i64 k) := by
    unfold Pair World.alloc; simp
  have hnext := next_any (w.alloc (.cells #[.slice (some ⟨b, o, none⟩) n c, .int .i64 k] 37)) w.heap.size b o n c k p e bs hn hpair
    (hl.keep (B := w.heap.size) (Keep.of_below hbl) hb (by omega)) (Nat.lt_of_lt_of_le hb hbl.size) (by omega) hk hc hbig hnb hpp hpn he
  clear hl hn hpp he hpair
  go_enter Tryd.func11, Tryd.ntmps11
  go_wp2_with fail
  refine hnext.mono ?_
  rintro e' w' ⟨rfl, hp', hk'⟩
  have z1 := hp'.cell1
  have hfin : Below w.heap.size w w' := hbl.trans ⟨hk'.os, hk'.tape, hk'.output, hk'.size, fun i hi => hk'.block i (Nat.lt_of_lt_of_le hi hbl.size) (by omega)⟩
  clear hk' hp' hnext hbl
  generalize hx : (bs.getD p 0).toNat = x
  have HX : Hid ((bs.getD p 0).toNat = x) := hx
  clear hx
  go_wp2_with fail
  go_quiet (fail)
  go_wp2
  go_ret3
  exact ⟨by rw [HX.out]; rfl, ⟨hfin.os, hfin.tape, hfin.output, hfin.size, hfin.block⟩⟩
end Go.Proofs.Qxb6601188aDoor
