/-
  Seat b6601722aD: the walk of (Renames).Name.
-/
import Derived.Test.Qxb6601722aDoorScan
namespace Go.Proofs.Qxb6601722aDoor
open Go.RowKit

/-- the first k of the texts do not match x -/
def NoneTo (F : Nat → ByteArray) (x : ByteArray) (k : Nat) : Prop := ∀ j, j < k → eqs (F j) x = false
theorem NoneTo.zero (F : Nat → ByteArray) (x : ByteArray) : NoneTo F x 0 := fun j hj => absurd hj (Nat.not_lt_zero j)
theorem NoneTo.succ {F : Nat → ByteArray} {x : ByteArray} {k : Nat} (h : NoneTo F x k) (hk : eqs (F k) x = false) : NoneTo F x (k + 1) := fun j hj => by
  by_cases e : j = k
  · subst e; exact hk
  · exact h j (by omega)

/-- what Name answers -/
def NameIs (n : Nat) (F T : Nat → ByteArray) (x s : ByteArray) (b : Bool) : Prop :=
  (∃ k, k < n ∧ eqs (F k) x = true ∧ NoneTo F x k ∧ s = T k ∧ b = true) ∨
  (NoneTo F x n ∧ (∃ k, k < n ∧ eqs (T k) x = true) ∧ s = ByteArray.empty ∧ b = false) ∨
  (NoneTo F x n ∧ NoneTo T x n ∧ s = x ∧ b = true)
def RetName (n : Nat) (F T : Nat → ByteArray) (x : ByteArray) (w : World) (e : Ending) (w' : World) : Prop :=
  ∃ s b, e = .returned (.tuple #[.string s, .bool b]) ∧ NameIs n F T x s b ∧ Below w.heap.size w w'
theorem new_pair (w : World) (u v : Value) : (w.alloc (.cells #[u, v] 65)).cell? ⟨w.heap.size, 1, none⟩ = some v := by
  unfold World.cell?
  rw [heap_alloc_new]
  rfl
/-- the texts are short -/
def Short (n : Nat) (F T : Nat → ByteArray) : Prop := ∀ j, j < n → (F j).size ≤ 1048576 ∧ (T j).size ≤ 1048576

set_option maxHeartbeats 4000000 in
theorem name_any (n₀ : Nat) (a : Option Addr) (n : Nat) (F T : Nat → ByteArray) (c : Nat) (x : ByteArray) (w : World) (hT : Tabs w) (hx : RenAt n₀ w a n F T) (hn₀ : n₀ ≤ w.heap.size) (hxl : n ≤ 4096) (hf : Short n F T) (hxs : x.size ≤ 1048576) :
    Calls Tryd.prog 18 #[.slice a n c, .string x] w fun e w' => RetName n F T x w e w' := by
  have HX : Hid (RenAt n₀ w a n F T) := hx
  have HF : Hid (Short n F T) := hf
  have HT : Hid (Tabs w) := hT
  clear hx hf hT
  go_enter Tryd.func18, Tryd.ntmps18
  go_wp2
  go_loopg [12] n (fun g s12 wr => ∃ i : Nat, s12 = .int .i64 i ∧ i + g = n ∧ NoneTo F x i ∧ Below w.heap.size w wr)
  case atStart => exact ⟨0, rfl, by omega, NoneTo.zero _ _, Below.refl _ _⟩
  case round =>
    obtain ⟨i, rfl, hin, hno, hbl⟩ := hrel
    have HN : Hid (NoneTo F x i) := hno
    clear hno
    have hws : w.heap.size ≤ wr.heap.size := hbl.size
    cases gk with
    | zero =>
      obtain rfl : i = n := by omega
      go_wp2
      go_loopg [25] i (fun g s25 wr => ∃ k : Nat, s25 = .int .i64 k ∧ k + g = i ∧ NoneTo T x k ∧ Below w.heap.size w wr)
      case atStart => exact ⟨0, rfl, by omega, NoneTo.zero _ _, hbl⟩
      case round =>
        obtain ⟨k, rfl, hkn, hno, hbl2⟩ := hrel
        have HN2 : Hid (NoneTo T x k) := hno
        clear hno
        cases gk with
        | zero =>
          obtain rfl : k = i := by omega
          go_wp2
          go_ret2
          exact ⟨x, true, rfl, .inr (.inr ⟨HN.out, HN2.out, rfl, rfl⟩), hbl2⟩
        | succ g =>
          obtain ⟨ab, off, rfl, hb, hcell0, hcell20⟩ := HX.out k (by omega)
          have hcell := (hbl2.cell (p := ⟨ab, off + k * 2, none⟩) (by show ab < _; omega)).trans hcell0
          have hcell2 := (hbl2.cell (p := ⟨ab, off + k * 2 + 1, none⟩) (by show ab < _; omega)).trans hcell20
          clear hcell0 hcell20
          obtain ⟨hs1, hs2⟩ := HF.out k (by omega)
          obtain ⟨s, hs⟩ : ∃ s, F k = s := ⟨_, rfl⟩
          obtain ⟨t, ht⟩ : ∃ t, T k = t := ⟨_, rfl⟩
          rw [hs] at hcell hs1
          rw [ht] at hcell2 hs2
          have HS2 : Hid (T k = t) := ht
          clear hs ht
          have hws2 : w.heap.size ≤ wr.heap.size := hbl2.size
          have cE := eqs_any t x w.heap.size w (wr.alloc (.cells #[.string s, .string t] 65)) HT.out (hbl2.alloc hws2 _) hs2 hxs
          obtain ⟨B, hB⟩ : ∃ B, eqs t x = B := ⟨_, rfl⟩
          rw [hB] at cE
          have HB : Hid (eqs t x = B) := hB
          clear hB
          cases B with
          | true =>
            go_wp2_with (go_at_call 20; refine cE.mono ?_; rintro e w2 ⟨rfl, hb2, hbl3⟩)
            go_ret2
            exact ⟨ByteArray.empty, false, rfl, .inr (.inl ⟨HN.out, ⟨k, by omega, by rw [HS2.out]; exact HB.out⟩, rfl, rfl⟩), hbl3⟩
          | false =>
            go_wp2_with (go_at_call 20; refine cE.mono ?_; rintro e w2 ⟨rfl, hb2, hbl3⟩)
            go_roundg g
            case measure => omega
            case rel => exact ⟨k + 1, by go_num, by omega, HN2.out.succ (by rw [HS2.out]; exact HB.out), hbl3⟩
    | succ g =>
      obtain ⟨ab, off, rfl, hb, hcell0, hcell20⟩ := HX.out i (by omega)
      have hcell := (hbl.cell (p := ⟨ab, off + i * 2, none⟩) (by show ab < _; omega)).trans hcell0
      have hcell2 := (hbl.cell (p := ⟨ab, off + i * 2 + 1, none⟩) (by show ab < _; omega)).trans hcell20
      clear hcell0 hcell20
      obtain ⟨hs1, hs2⟩ := HF.out i (by omega)
      obtain ⟨s, hs⟩ : ∃ s, F i = s := ⟨_, rfl⟩
      obtain ⟨t, ht⟩ : ∃ t, T i = t := ⟨_, rfl⟩
      rw [hs] at hcell hs1
      rw [ht] at hcell2 hs2
      have HS : Hid (F i = s) := hs
      have HS2 : Hid (T i = t) := ht
      clear hs ht
      have cE := eqs_any s x (wr.heap.size + 1) w (wr.alloc (.cells #[.string s, .string t] 65)) HT.out (hbl.alloc hws _) hs1 hxs
      obtain ⟨B, hB⟩ : ∃ B, eqs s x = B := ⟨_, rfl⟩
      rw [hB] at cE
      have HB : Hid (eqs s x = B) := hB
      clear hB
      have hnew : (wr.alloc (.cells #[.string s, .string t] 65)).cell? ⟨wr.heap.size, 1, none⟩ = some (.string t) := new_pair wr _ _
      cases B with
      | true =>
        go_wp2_with (go_at_call 20; refine cE.mono ?_; rintro e w2 ⟨rfl, hb2, hbl3⟩; have hnew2 := ((hb2 (by simp)).cell (p := ⟨wr.heap.size, 1, none⟩) (by show wr.heap.size < _; omega)).trans hnew; clear hb2)
        go_ret2
        exact ⟨t, true, rfl, .inl ⟨i, by omega, by rw [HS.out]; exact HB.out, HN.out, HS2.out.symm, rfl⟩, hbl3⟩
      | false =>
        go_wp2_with (go_at_call 20; refine cE.mono ?_; rintro e w2 ⟨rfl, hb2, hbl3⟩)
        go_roundg g
        case measure => omega
        case rel => exact ⟨i + 1, by go_num, by omega, HN.out.succ (by rw [HS.out]; exact HB.out), hbl3⟩
end Go.Proofs.Qxb6601722aDoor
