/-
  Seat b6601561aD: the walk of modelTagList.
-/
import Derived.Test.Qxb6601561aDoorList
import Derived.Test.Qxb6601561aDoorJoin
import Derived.Test.Qxb6601561aDoorStep
import Derived.Deep.DeepCutAuto
import Derived.Deep.CutBlock
namespace Go.Proofs.Qxb6601561aDoor
open Go.RowKit

theorem join_J (xs : List ByteArray) : J xs xs.length = joinOf xs := by unfold J joinOf; rw [List.take_length]
theorem ows_is (c : UInt8) : ows.contains c = true ↔ c = 32 ∨ c = 9 := by simp [ows]
theorem ows_not (c : UInt8) : ows.contains c = false ↔ c ≠ 32 ∧ c ≠ 9 := by simp [ows]

def LRel (L : List UInt8) (s : Value) : Prop := ∃ k : Nat, k ≤ L.length ∧ s = .int .i64 k ∧ ∀ j, j < k → ows.contains (L.getD j 0) = true
def RRel (L : List UInt8) (k : Nat) (s : Value) : Prop := ∃ m : Nat, k ≤ m ∧ m ≤ L.length ∧ s = .int .i64 m ∧ ∀ j, m ≤ j → j < L.length → ows.contains (L.getD j 0) = true
def AEnd (L : List UInt8) (s : Value) : Prop := ∃ k : Nat, k ≤ L.length ∧ s = .int .i64 k ∧ (∀ j, j < k → ows.contains (L.getD j 0) = true) ∧ (k < L.length → ows.contains (L.getD k 0) = false)
def BEnd (L : List UInt8) (k : Nat) (s : Value) : Prop := ∃ m : Nat, k ≤ m ∧ m ≤ L.length ∧ s = .int .i64 m ∧ (∀ j, m ≤ j → j < L.length → ows.contains (L.getD j 0) = true) ∧ (k < m → ows.contains (L.getD (m - 1) 0) = false)
theorem lrel {L : List UInt8} {s s' : Value} (h : LRel L s) (e : s' = s) : LRel L s' := by subst e; exact h
theorem rrel {L : List UInt8} {k : Nat} {s s' : Value} (h : RRel L k s) (e : s' = s) : RRel L k s' := by subst e; exact h

theorem conv_win (wr : World) (g start e cc n : Nat) (L : List UInt8) (hn : L.length = n) (hse : start ≤ e) (hen : e ≤ n) (hc : ∀ j, j < n → wr.cell? ⟨g, j, none⟩ = some (.int .u8 (L.getD j 0).toNat)) :
    (convert 27 9 (.slice (some ⟨g, start, none⟩) (e - start) cc)).run Tryd.prog wr = .ok (.string (baOf ((L.drop start).take (e - start)))) wr := by
  have hl : ((L.drop start).take (e - start)).length = e - start := by rw [List.length_take, List.length_drop]; omega
  have := run_convert_bytes_back wr 27 9 5 ⟨g, start, none⟩ cc ((L.drop start).take (e - start)) Tryd.underlying27 Tryd.underlying5 Tryd.underlying9 (fun j hj => by
    rw [hl] at hj
    have h := hc (start + j) (by omega)
    rw [show (⟨g, start, none⟩ : Addr).add j = ⟨g, start + j, none⟩ from by simp [Addr.add], h]
    have h2 : start + j < L.length := by omega
    simp [List.getD, h2])
  rw [hl] at this
  exact this

theorem own_tag {w8 : World} {B : Nat} {v8 : Value} {tags : List (List UInt8)} {T1 : List UInt8} (h : w8.ownsRow B 9 1 v8 (tags.length + 1) (tags.map strV ++ [.string (baOf T1)])) : w8.ownsRow B 9 1 v8 (tags ++ [T1]).length ((tags ++ [T1]).map strV) := by
  have e1 : (tags ++ [T1]).length = tags.length + 1 := by simp
  have e2 : (tags ++ [T1]).map strV = tags.map strV ++ [.string (baOf T1)] := by simp [strV]
  rw [e1, e2]; exact h
def MRel (L : List UInt8) (TS : List (List UInt8)) (w1 : World) (v6 s7 s8 s9 : Value) (wr : World) : Prop :=
  ∃ (i st start : Nat) (tags : List (List UInt8)), i ≤ L.length ∧ st ≤ 4 ∧ start ≤ i ∧ s9 = .int .i64 i ∧ s7 = .int .i64 st ∧ s8 = .int .i64 start ∧ wr.ownsRow w1.heap.size 9 1 v6 tags.length (tags.map strV) ∧ (tags = [] → v6 = .slice none 0 0) ∧
    (auto (L.drop i) st (curOf L st start i) tags).getD [] = TS ∧ tags.length ≤ i ∧ Below w1.heap.size w1 wr
theorem mrel {L : List UInt8} {TS : List (List UInt8)} {w1 wr : World} {v6 s7 s8 s9 s7' s8' s9' : Value} (h : MRel L TS w1 v6 s7 s8 s9 wr) (e7 : s7' = s7) (e8 : s8' = s8) (e9 : s9' = s9) : MRel L TS w1 v6 s7' s8' s9' wr := by subst e7 e8 e9; exact h

set_option maxHeartbeats 40000000 in
set_option maxRecDepth 100000 in
theorem model_any (a : Option Addr) (xs : List ByteArray) (c : Nat) (w : World) (hx : StrAt w.heap.size w a xs) (hs : xs.length + sumL xs ≤ 1048576) :
    Calls Tryd.prog 10 #[.slice a xs.length c] w fun e w' => RetTags (tagsOf (joinOf xs)) w e w' := by
  obtain ⟨i0, hi, hz0, hz1, hz2⟩ := info_parts info9
  have hjoin := joinComma_any a xs c w hx hs
  have hLb : (J xs xs.length).length ≤ 1048576 := by have := J_len xs xs.length (Nat.le_refl _); rw [List.take_length] at this; omega
  rw [join_J] at hjoin hLb
  clear hx hs
  generalize joinOf xs = L at *
  generalize xs.length = n0 at *
  generalize hTS : tagsOf L = TS
  have HTS : Hid (tagsOf L = TS) := hTS
  clear hTS
  go_enter Tryd.func10, Tryd.ntmps10
  go_wp2_with fail
  refine hjoin.mono ?_
  rintro e w1 ⟨g, cap, rfl, hcap1, hcap2, hgw, hg1, hcells, hb1⟩
  clear hjoin
  generalize hn : L.length = n at *
  have HN : Hid (L.length = n) := hn
  have HCC : Hid (∀ i, i < n → w1.cell? ⟨g, i, none⟩ = some (.int .u8 (L.getD i 0).toNat)) := hcells
  clear hn hcells
  go_upto_block 0 with fail
  go_cut [4] (fun s wx => w1 = wx ∧ AEnd L s)
  case first =>
    go_wp2_with fail
    go_loop [4] (fun s => LRel L s) (fun s => n - (intOf s).toNat)
    case atStart => exact ⟨0, Nat.zero_le _, rfl, fun j hj => absurd hj (Nat.not_lt_zero _)⟩
    case round =>
      obtain ⟨k, hk, rfl, hA1⟩ := hrel
      rw [HN.out] at hk
      have HA1 : Hid (∀ j, j < k → ows.contains (L.getD j 0) = true) := hA1
      clear hA1
      have more : k < n → ows.contains (L.getD k 0) = true → ∀ j, j < k + 1 → ows.contains (L.getD j 0) = true := fun _ h j hj => by
        by_cases e : j = k
        · subst e; exact h
        · exact HA1.out j (by omega)
      by_cases hlt : k < n ∧ ows.contains (L.getD k 0) = true
      · obtain ⟨hlt, hw⟩ := hlt
        have HM : Hid (∀ j, j < k + 1 → ows.contains (L.getD j 0) = true) := more hlt hw
        have hcell := HCC.out k hlt
        rw [ows_is] at hw
        rcases hw with hw | hw
        · have hcell' : w1.cell? ⟨g, k, none⟩ = some (.int .u8 32) := by rw [hcell, hw]; rfl
          clear hcell hw more
          go_wp2
          go_round
          case rel => exact lrel (show LRel L (.int .i64 ((k + 1 : Nat) : Int)) from ⟨k + 1, by rw [HN.out]; omega, rfl, HM.out⟩) (by go_num)
          case measure => simp [intOf]; omega
        · have hcell' : w1.cell? ⟨g, k, none⟩ = some (.int .u8 9) := by rw [hcell, hw]; rfl
          clear hcell hw more
          go_wp2
          go_round
          case rel => exact lrel (show LRel L (.int .i64 ((k + 1 : Nat) : Int)) from ⟨k + 1, by rw [HN.out]; omega, rfl, HM.out⟩) (by go_num)
          case measure => simp [intOf]; omega
      · have A2 : k < n → ows.contains (L.getD k 0) = false := fun h => by
          cases hc : ows.contains (L.getD k 0) with
          | false => rfl
          | true => exact absurd ⟨h, hc⟩ hlt
        have HA2 : Hid (k < n → ows.contains (L.getD k 0) = false) := A2
        clear more hlt
        by_cases hkn : k < n
        · have hcell := HCC.out k hkn
          have h2 := (ows_not _).1 (A2 hkn)
          obtain ⟨h32, h9⟩ := h2
          rw [Ne, byte_is] at h32 h9
          generalize (L.getD k 0).toNat = x at hcell h32 h9
          have b32 : ((x : Int) == 32) = false := beq_eq_false_iff_ne.2 (fun e => h32 (show x = 32 by omega))
          have b9 : ((x : Int) == 9) = false := beq_eq_false_iff_ne.2 (fun e => h9 (show x = 9 by omega))
          clear A2 h32 h9
          go_wp2_with fail
          go_meet
          exact ⟨rfl, k, by rw [HN.out]; omega, rfl, HA1.out, by rw [HN.out]; exact HA2.out⟩
        · clear A2
          go_wp2_with fail
          go_meet
          exact ⟨rfl, k, by rw [HN.out]; omega, rfl, HA1.out, by rw [HN.out]; exact HA2.out⟩
  case rest =>
    obtain ⟨rfl, k, hkn, rfl, hA1, hA2⟩ := hcut
    rw [HN.out] at hkn
    have HA1 : Hid (∀ j, j < k → ows.contains (L.getD j 0) = true) := hA1
    have HA2 : Hid (k < L.length → ows.contains (L.getD k 0) = false) := hA2
    clear hA1 hA2
    go_upto_block 2 with fail
    go_cut [5] (fun s wx => w1 = wx ∧ BEnd L k s)
    case first =>
      go_wp2_with fail
      go_loop [5] (fun s => RRel L k s) (fun s => (intOf s).toNat)
      case atStart => exact ⟨n, hkn, by rw [HN.out]; exact Nat.le_refl _, rfl, fun j h1 h2 => by rw [HN.out] at h2; omega⟩
      case round =>
        obtain ⟨m, hkm, hm, rfl, hB1⟩ := hrel
        rw [HN.out] at hm
        have HB1 : Hid (∀ j, m ≤ j → j < L.length → ows.contains (L.getD j 0) = true) := hB1
        clear hB1
        by_cases hlt : k < m
        · obtain ⟨q, rfl⟩ : ∃ q, m = q + 1 := ⟨m - 1, by omega⟩
          have hcell := HCC.out q (by omega)
          have hq : (((q + 1 : Nat) : Int) - 1) = (q : Int) := by omega
          cases hc : ows.contains (L.getD q 0) with
          | true =>
            have HM : Hid (∀ j, q ≤ j → j < L.length → ows.contains (L.getD j 0) = true) := fun j h1 h2 => by
              by_cases e : j = q
              · subst e; exact hc
              · exact HB1.out j (by omega) h2
            rcases (ows_is _).1 hc with hw | hw
            · have hcell' : w1.cell? ⟨g, q, none⟩ = some (.int .u8 32) := by rw [hcell, hw]; rfl
              clear hcell hw hc
              go_wp2
              go_round
              case rel => exact rrel (show RRel L k (.int .i64 ((q : Nat) : Int)) from ⟨q, by omega, by rw [HN.out]; omega, rfl, HM.out⟩) (by go_num)
              case measure => simp [intOf]
            · have hcell' : w1.cell? ⟨g, q, none⟩ = some (.int .u8 9) := by rw [hcell, hw]; rfl
              clear hcell hw hc
              go_wp2
              go_round
              case rel => exact rrel (show RRel L k (.int .i64 ((q : Nat) : Int)) from ⟨q, by omega, by rw [HN.out]; omega, rfl, HM.out⟩) (by go_num)
              case measure => simp [intOf]
          | false =>
            have HB2 : Hid (k < q + 1 → ows.contains (L.getD (q + 1 - 1) 0) = false) := fun _ => hc
            obtain ⟨h32, h9⟩ := (ows_not _).1 hc
            rw [Ne, byte_is] at h32 h9
            generalize (L.getD q 0).toNat = x at hcell h32 h9
            have b32 : ((x : Int) == 32) = false := beq_eq_false_iff_ne.2 (fun e => h32 (show x = 32 by omega))
            have b9 : ((x : Int) == 9) = false := beq_eq_false_iff_ne.2 (fun e => h9 (show x = 9 by omega))
            clear h32 h9 hc
            go_wp2
            go_meet
            exact ⟨rfl, q + 1, by omega, by rw [HN.out]; omega, rfl, HB1.out, HB2.out⟩
        · have e : m = k := by omega
          subst e
          have HB2 : Hid (m < m → ows.contains (L.getD (m - 1) 0) = false) := fun h => absurd h (by omega)
          go_wp2
          go_meet
          exact ⟨rfl, m, by omega, by rw [HN.out]; omega, rfl, HB1.out, HB2.out⟩
    case rest =>
      obtain ⟨rfl, m, hkm, hmn, rfl, hB1, hB2⟩ := hcut
      have htr := trim_both L k m hkm hmn HA1.out HA2.out hB1 hB2
      have hst := star_iff L k m hkm hmn
      rw [← htr] at hst
      rw [HN.out] at hmn
      clear hB1 hB2 htr HA1 HA2
      by_cases hstar : m - k = 1 ∧ L.getD k 0 = 42
      · have hres : tagsOf L = [[42]] := by unfold tagsOf resOf; rw [if_pos (hst.2 hstar)]; rfl
        obtain rfl : TS = [[42]] := HTS.out.symm.trans hres
        obtain ⟨h1, h2⟩ := hstar
        have hcell : w1.cell? ⟨g, k, none⟩ = some (.int .u8 42) := by rw [HCC.out k (by omega), h2]; rfl
        obtain rfl : m = k + 1 := by omega
        clear hst h2 hres HTS
        go_wp2_with fail
        go_ret
        exact ⟨_, rfl, holds_one w1 _ _ rfl, hb1.alloc hb1.size _⟩
      · have hres : TS = (auto L 0 [] []).getD [] := by
          rw [← HTS.out]; unfold tagsOf resOf; rw [if_neg (fun h => hstar (hst.1 h))]
        have HRES : Hid (TS = (auto L 0 [] []).getD []) := hres
        clear hst hres HTS
        go_upto_region 8 with fail
        go_cut [66] (fun s wx => w1 = wx ∧ s = .bool false)
        case first =>
          by_cases h1 : m - k = 1
          · obtain rfl : m = k + 1 := by omega
            have h2 : L.getD k 0 ≠ 42 := fun h => hstar ⟨h1, h⟩
            rw [Ne, byte_is] at h2
            have hcell := HCC.out k (by omega)
            generalize (L.getD k 0).toNat = x at hcell h2
            have b42 : ((x : Int) == 42) = false := beq_eq_false_iff_ne.2 (fun e => h2 (show x = 42 by omega))
            clear h2 hstar
            go_wp2
            go_meet
            exact ⟨rfl, rfl⟩
          · have b1 : (((m : Int) - (k : Int)) == 1) = false := beq_eq_false_iff_ne.2 (by omega)
            clear hstar h1
            go_wp2
            go_meet
            exact ⟨rfl, rfl⟩
        case rest =>
          obtain ⟨rfl, rfl⟩ := hcut
          clear hstar
          go_wp2_with fail
          go_loopw [6, 7, 8, 9, 10] (fun v6 s7 s8 s9 _ wr => MRel L TS w1 v6 s7 s8 s9 wr) (fun _ _ _ s9 _ _ => n - (intOf s9).toNat)
          case atStart => exact ⟨0, 0, 0, [], Nat.zero_le _, by omega, by omega, rfl, rfl, rfl, World.ownsRow_nil _ _ _ _, fun _ => rfl, HRES.out.symm, by simp, Below.refl _ _⟩
          case round =>
            obtain ⟨i, st, start, tags, hi1, hst, hsi, rfl, h7, rfl, hown, hnil, hT, htl, hbl⟩ := hrel
            rw [HN.out] at hi1
            have hB := hbl.size
            have HO : Hid (wr.ownsRow w1.heap.size 9 1 _ tags.length (tags.map strV)) := hown
            have HNI : Hid (tags = [] → _ = Value.slice none 0 0) := hnil
            have HT : Hid ((auto (L.drop i) st (curOf L st start i) tags).getD [] = TS) := hT
            have HBL : Hid (Below w1.heap.size w1 wr) := hbl
            by_cases hlt : i < n
            · have hcell : wr.cell? ⟨g, i, none⟩ = some (.int .u8 (L.getD i 0).toNat) := (hbl.cell (p := ⟨g, i, none⟩) hg1).trans (HCC.out i hlt)
              have hiL : i < L.length := by rw [HN.out]; exact hlt
              clear hnil hT hbl
              rcases (show st = 0 ∨ st = 1 ∨ st = 2 ∨ st = 3 ∨ st = 4 by omega) with rfl | rfl | rfl | rfl | rfl
              · have h7' : _ = Value.int .i64 0 := h7
                subst h7'
                clear h7
                clear hown
                by_cases n87 : L.getD i 0 = 87
                · have hc := n87
                  have HT2 : Hid (_ = TS) := (congrArg (fun o => o.getD []) (st0_W L start i tags hiL hc)).symm.trans HT.out
                  have hcell' : wr.cell? ⟨g, i, none⟩ = some (.int .u8 87) := by rw [hcell, hc]; rfl
                  clear hcell
                  clear hc n87
                  go_wp2
                  go_roundw
                  case rel => exact mrel (show MRel L TS w1 _ (.int .i64 ((1 : Nat) : Int)) (.int .i64 ((i : Nat) : Int)) (.int .i64 ((i + 1 : Nat) : Int)) wr from ⟨i + 1, 1, i, tags, by rw [HN.out]; omega, by omega, by omega, rfl, rfl, rfl, HO.out, HNI.out, HT2.out, by omega, HBL.out⟩) (by first | rfl | go_num) (by first | rfl | go_num) (by go_num)
                  case measure => simp [intOf]; omega
                by_cases n34 : L.getD i 0 = 34
                · have hc := n34
                  have HT2 : Hid (_ = TS) := (congrArg (fun o => o.getD []) (st0_Q L start i tags hiL hc)).symm.trans HT.out
                  have hcell' : wr.cell? ⟨g, i, none⟩ = some (.int .u8 34) := by rw [hcell, hc]; rfl
                  clear hcell
                  clear hc n34 n87
                  go_wp2
                  go_roundw
                  case rel => exact mrel (show MRel L TS w1 _ (.int .i64 ((3 : Nat) : Int)) (.int .i64 ((i : Nat) : Int)) (.int .i64 ((i + 1 : Nat) : Int)) wr from ⟨i + 1, 3, i, tags, by rw [HN.out]; omega, by omega, by omega, rfl, rfl, rfl, HO.out, HNI.out, HT2.out, by omega, HBL.out⟩) (by first | rfl | go_num) (by first | rfl | go_num) (by go_num)
                  case measure => simp [intOf]; omega
                by_cases n32 : L.getD i 0 = 32
                · have hc := n32
                  have HT2 : Hid (_ = TS) := (congrArg (fun o => o.getD []) (st0_S L start i tags hiL (.inl hc))).symm.trans HT.out
                  have hcell' : wr.cell? ⟨g, i, none⟩ = some (.int .u8 32) := by rw [hcell, hc]; rfl
                  clear hcell
                  clear hc n32 n34 n87
                  go_wp2
                  go_roundw
                  case rel => exact mrel (show MRel L TS w1 _ (.int .i64 ((0 : Nat) : Int)) (.int .i64 ((start : Nat) : Int)) (.int .i64 ((i + 1 : Nat) : Int)) wr from ⟨i + 1, 0, start, tags, by rw [HN.out]; omega, by omega, by omega, rfl, rfl, rfl, HO.out, HNI.out, HT2.out, by omega, HBL.out⟩) (by first | rfl | go_num) (by first | rfl | go_num) (by go_num)
                  case measure => simp [intOf]; omega
                by_cases n9 : L.getD i 0 = 9
                · have hc := n9
                  have HT2 : Hid (_ = TS) := (congrArg (fun o => o.getD []) (st0_S L start i tags hiL (.inr (.inl hc)))).symm.trans HT.out
                  have hcell' : wr.cell? ⟨g, i, none⟩ = some (.int .u8 9) := by rw [hcell, hc]; rfl
                  clear hcell
                  clear hc n9 n32 n34 n87
                  go_wp2
                  go_roundw
                  case rel => exact mrel (show MRel L TS w1 _ (.int .i64 ((0 : Nat) : Int)) (.int .i64 ((start : Nat) : Int)) (.int .i64 ((i + 1 : Nat) : Int)) wr from ⟨i + 1, 0, start, tags, by rw [HN.out]; omega, by omega, by omega, rfl, rfl, rfl, HO.out, HNI.out, HT2.out, by omega, HBL.out⟩) (by first | rfl | go_num) (by first | rfl | go_num) (by go_num)
                  case measure => simp [intOf]; omega
                by_cases n44 : L.getD i 0 = 44
                · have hc := n44
                  have HT2 : Hid (_ = TS) := (congrArg (fun o => o.getD []) (st0_S L start i tags hiL (.inr (.inr hc)))).symm.trans HT.out
                  have hcell' : wr.cell? ⟨g, i, none⟩ = some (.int .u8 44) := by rw [hcell, hc]; rfl
                  clear hcell
                  clear hc n44 n9 n32 n34 n87
                  go_wp2
                  go_roundw
                  case rel => exact mrel (show MRel L TS w1 _ (.int .i64 ((0 : Nat) : Int)) (.int .i64 ((start : Nat) : Int)) (.int .i64 ((i + 1 : Nat) : Int)) wr from ⟨i + 1, 0, start, tags, by rw [HN.out]; omega, by omega, by omega, rfl, rfl, rfl, HO.out, HNI.out, HT2.out, by omega, HBL.out⟩) (by first | rfl | go_num) (by first | rfl | go_num) (by go_num)
                  case measure => simp [intOf]; omega
                have HT2 : Hid (_ = TS) := (congrArg (fun o => o.getD []) (st0_N L start i tags hiL n87 n34 (by rintro (h | h | h) <;> contradiction))).symm.trans HT.out
                rw [byte_is] at n87
                rw [byte_is] at n34
                rw [byte_is] at n32
                rw [byte_is] at n9
                rw [byte_is] at n44
                generalize (L.getD i 0).toNat = x at hcell n87 n34 n32 n9 n44
                have n87' : ¬ x = 87 := n87
                have n34' : ¬ x = 34 := n34
                have n32' : ¬ x = 32 := n32
                have n9' : ¬ x = 9 := n9
                have n44' : ¬ x = 44 := n44
                clear n87 n34 n32 n9 n44
                have b87 : ((x : Int) == 87) = false := beq_eq_false_iff_ne.2 (by omega)
                have m87 : ((x : Int) != 87) = true := by rw [bne, b87]; rfl
                have b34 : ((x : Int) == 34) = false := beq_eq_false_iff_ne.2 (by omega)
                have m34 : ((x : Int) != 34) = true := by rw [bne, b34]; rfl
                have b32 : ((x : Int) == 32) = false := beq_eq_false_iff_ne.2 (by omega)
                have m32 : ((x : Int) != 32) = true := by rw [bne, b32]; rfl
                have b9 : ((x : Int) == 9) = false := beq_eq_false_iff_ne.2 (by omega)
                have m9 : ((x : Int) != 9) = true := by rw [bne, b9]; rfl
                have b44 : ((x : Int) == 44) = false := beq_eq_false_iff_ne.2 (by omega)
                have m44 : ((x : Int) != 44) = true := by rw [bne, b44]; rfl
                clear n87' n34' n32' n9' n44'
                obtain rfl : TS = [] := HT2.out.symm
                go_wp2
                go_ret
                exact ⟨_, rfl, holds_nil _, hb1.trans (HBL.out.mono hb1.size)⟩
              · have h7' : _ = Value.int .i64 1 := h7
                subst h7'
                clear h7
                clear hown
                by_cases n47 : L.getD i 0 = 47
                · have hc := n47
                  have HT2 : Hid (_ = TS) := (congrArg (fun o => o.getD []) (st1_S L start i tags hiL hsi hc)).symm.trans HT.out
                  have hcell' : wr.cell? ⟨g, i, none⟩ = some (.int .u8 47) := by rw [hcell, hc]; rfl
                  clear hcell
                  clear hc n47
                  go_wp2
                  go_roundw
                  case rel => exact mrel (show MRel L TS w1 _ (.int .i64 ((2 : Nat) : Int)) (.int .i64 ((start : Nat) : Int)) (.int .i64 ((i + 1 : Nat) : Int)) wr from ⟨i + 1, 2, start, tags, by rw [HN.out]; omega, by omega, by omega, rfl, rfl, rfl, HO.out, HNI.out, HT2.out, by omega, HBL.out⟩) (by first | rfl | go_num) (by first | rfl | go_num) (by go_num)
                  case measure => simp [intOf]; omega
                have HT2 : Hid (_ = TS) := (congrArg (fun o => o.getD []) (st1_N L start i tags hiL n47)).symm.trans HT.out
                rw [byte_is] at n47
                generalize (L.getD i 0).toNat = x at hcell n47
                have n47' : ¬ x = 47 := n47
                clear n47
                have b47 : ((x : Int) == 47) = false := beq_eq_false_iff_ne.2 (by omega)
                have m47 : ((x : Int) != 47) = true := by rw [bne, b47]; rfl
                clear n47'
                obtain rfl : TS = [] := HT2.out.symm
                go_wp2
                go_ret
                exact ⟨_, rfl, holds_nil _, hb1.trans (HBL.out.mono hb1.size)⟩
              · have h7' : _ = Value.int .i64 2 := h7
                subst h7'
                clear h7
                clear hown
                by_cases n34 : L.getD i 0 = 34
                · have hc := n34
                  have HT2 : Hid (_ = TS) := (congrArg (fun o => o.getD []) (st2_Q L start i tags hiL hsi hc)).symm.trans HT.out
                  have hcell' : wr.cell? ⟨g, i, none⟩ = some (.int .u8 34) := by rw [hcell, hc]; rfl
                  clear hcell
                  clear hc n34
                  go_wp2
                  go_roundw
                  case rel => exact mrel (show MRel L TS w1 _ (.int .i64 ((3 : Nat) : Int)) (.int .i64 ((start : Nat) : Int)) (.int .i64 ((i + 1 : Nat) : Int)) wr from ⟨i + 1, 3, start, tags, by rw [HN.out]; omega, by omega, by omega, rfl, rfl, rfl, HO.out, HNI.out, HT2.out, by omega, HBL.out⟩) (by first | rfl | go_num) (by first | rfl | go_num) (by go_num)
                  case measure => simp [intOf]; omega
                have HT2 : Hid (_ = TS) := (congrArg (fun o => o.getD []) (st2_N L start i tags hiL n34)).symm.trans HT.out
                rw [byte_is] at n34
                generalize (L.getD i 0).toNat = x at hcell n34
                have n34' : ¬ x = 34 := n34
                clear n34
                have b34 : ((x : Int) == 34) = false := beq_eq_false_iff_ne.2 (by omega)
                have m34 : ((x : Int) != 34) = true := by rw [bne, b34]; rfl
                clear n34'
                obtain rfl : TS = [] := HT2.out.symm
                go_wp2
                go_ret
                exact ⟨_, rfl, holds_nil _, hb1.trans (HBL.out.mono hb1.size)⟩
              · have h7' : _ = Value.int .i64 3 := h7
                subst h7'
                clear h7
                by_cases n34 : L.getD i 0 = 34
                · have hc := n34
                  have HT2 : Hid (_ = TS) := (congrArg (fun o => o.getD []) (st3_Q L start i tags hiL hsi hc)).symm.trans HT.out
                  have hcell' : wr.cell? ⟨g, i, none⟩ = some (.int .u8 34) := by rw [hcell, hc]; rfl
                  clear hcell
                  clear hc n34
                  have kc : ∀ cc, (convert 27 9 (.slice (some ⟨g, start, none⟩) (i + 1 - start) cc)).run Tryd.prog wr = .ok (.string (baOf ((L.drop start).take (i + 1 - start)))) wr := fun cc => conv_win wr g start (i + 1) cc n L HN.out (by omega) (by omega) (fun j hj => (HBL.out.cell (p := ⟨g, j, none⟩) hg1).trans (HCC.out j hj))
                  generalize (L.drop start).take (i + 1 - start) = T1 at *
                  go_wp2_with (at_builtin; refine wpList_append_own _ rfl (.tmp 117) (.tmp 124) 22 rfl w1.heap.size 9 i0 (.string ByteArray.empty) 1 16 Tryd.underlying22 hi hz0 hz1 hz2 rfl (by decide) _ _ _ rfl (hown.alloc _) ⟨wr.heap.size, 0, none⟩ 1 1 [.string (baOf T1)] rfl rfl (cell_one_new _ _ _) (by simp [Value.oneCell']) (by unfold maxLen; omega) (by omega) (by simp; omega) ?_; intro v8 w8 hown8 hgrow8 _; have hb8 := below_app1 HBL.out hB hown hgrow8)
                  go_roundw
                  case rel => exact mrel (show MRel L TS w1 v8 (.int .i64 ((4 : Nat) : Int)) (.int .i64 ((start : Nat) : Int)) (.int .i64 ((i + 1 : Nat) : Int)) w8 from ⟨i + 1, 4, start, tags ++ [T1], by rw [HN.out]; omega, by omega, by omega, rfl, rfl, rfl, own_tag hown8, by simp, HT2.out, by simp; omega, hb8⟩) (by first | rfl | go_num) (by first | rfl | go_num) (by go_num)
                  case measure => simp [intOf]; omega
                have het := etag_any (L.getD i 0) wr
                cases he : etag (L.getD i 0) with
                | true =>
                  have HT2 : Hid (_ = TS) := (congrArg (fun o => o.getD []) (st3_E L start i tags hiL hsi n34 he)).symm.trans HT.out
                  rw [he] at het
                  clear he hown
                  rw [byte_is] at n34
                  generalize (L.getD i 0).toNat = x at hcell n34 het
                  have n34' : ¬ x = 34 := n34
                  clear n34
                  have b34 : ((x : Int) == 34) = false := beq_eq_false_iff_ne.2 (by omega)
                  clear n34'
                  go_wp2_with (go_at_call 17; refine het.mono ?_; rintro e w' ⟨rfl, hw'⟩; have hw'' := hw'.symm; subst hw'')
                  go_roundw
                  case rel => exact mrel (show MRel L TS w1 _ (.int .i64 ((3 : Nat) : Int)) (.int .i64 ((start : Nat) : Int)) (.int .i64 ((i + 1 : Nat) : Int)) wr from ⟨i + 1, 3, start, tags, by rw [HN.out]; omega, by omega, by omega, rfl, rfl, rfl, HO.out, HNI.out, HT2.out, by omega, HBL.out⟩) (by first | rfl | go_num) (by first | rfl | go_num) (by go_num)
                  case measure => simp [intOf]; omega
                | false =>
                  have HT2 : Hid (_ = TS) := (congrArg (fun o => o.getD []) (st3_N L start i tags hiL n34 he)).symm.trans HT.out
                  rw [he] at het
                  clear he hown
                  rw [byte_is] at n34
                  generalize (L.getD i 0).toNat = x at hcell n34 het
                  have n34' : ¬ x = 34 := n34
                  clear n34
                  have b34 : ((x : Int) == 34) = false := beq_eq_false_iff_ne.2 (by omega)
                  clear n34'
                  obtain rfl : TS = [] := HT2.out.symm
                  go_wp2_with (go_at_call 17; refine het.mono ?_; rintro e w' ⟨rfl, hw'⟩; have hw'' := hw'.symm; subst hw'')
                  go_ret
                  exact ⟨_, rfl, holds_nil _, hb1.trans (HBL.out.mono hb1.size)⟩
              · have h7' : _ = Value.int .i64 4 := h7
                subst h7'
                clear h7
                clear hown
                by_cases n44 : L.getD i 0 = 44
                · have hc := n44
                  have HT2 : Hid (_ = TS) := (congrArg (fun o => o.getD []) (st4_C L start i tags hiL hc)).symm.trans HT.out
                  have hcell' : wr.cell? ⟨g, i, none⟩ = some (.int .u8 44) := by rw [hcell, hc]; rfl
                  clear hcell
                  clear hc n44
                  go_wp2
                  go_roundw
                  case rel => exact mrel (show MRel L TS w1 _ (.int .i64 ((0 : Nat) : Int)) (.int .i64 ((start : Nat) : Int)) (.int .i64 ((i + 1 : Nat) : Int)) wr from ⟨i + 1, 0, start, tags, by rw [HN.out]; omega, by omega, by omega, rfl, rfl, rfl, HO.out, HNI.out, HT2.out, by omega, HBL.out⟩) (by first | rfl | go_num) (by first | rfl | go_num) (by go_num)
                  case measure => simp [intOf]; omega
                by_cases n32 : L.getD i 0 = 32
                · have hc := n32
                  have HT2 : Hid (_ = TS) := (congrArg (fun o => o.getD []) (st4_S L start i tags hiL (.inl hc))).symm.trans HT.out
                  have hcell' : wr.cell? ⟨g, i, none⟩ = some (.int .u8 32) := by rw [hcell, hc]; rfl
                  clear hcell
                  clear hc n32 n44
                  go_wp2
                  go_roundw
                  case rel => exact mrel (show MRel L TS w1 _ (.int .i64 ((4 : Nat) : Int)) (.int .i64 ((start : Nat) : Int)) (.int .i64 ((i + 1 : Nat) : Int)) wr from ⟨i + 1, 4, start, tags, by rw [HN.out]; omega, by omega, by omega, rfl, rfl, rfl, HO.out, HNI.out, HT2.out, by omega, HBL.out⟩) (by first | rfl | go_num) (by first | rfl | go_num) (by go_num)
                  case measure => simp [intOf]; omega
                by_cases n9 : L.getD i 0 = 9
                · have hc := n9
                  have HT2 : Hid (_ = TS) := (congrArg (fun o => o.getD []) (st4_S L start i tags hiL (.inr hc))).symm.trans HT.out
                  have hcell' : wr.cell? ⟨g, i, none⟩ = some (.int .u8 9) := by rw [hcell, hc]; rfl
                  clear hcell
                  clear hc n9 n32 n44
                  go_wp2
                  go_roundw
                  case rel => exact mrel (show MRel L TS w1 _ (.int .i64 ((4 : Nat) : Int)) (.int .i64 ((start : Nat) : Int)) (.int .i64 ((i + 1 : Nat) : Int)) wr from ⟨i + 1, 4, start, tags, by rw [HN.out]; omega, by omega, by omega, rfl, rfl, rfl, HO.out, HNI.out, HT2.out, by omega, HBL.out⟩) (by first | rfl | go_num) (by first | rfl | go_num) (by go_num)
                  case measure => simp [intOf]; omega
                have HT2 : Hid (_ = TS) := (congrArg (fun o => o.getD []) (st4_N L start i tags hiL n44 (by rintro (h | h) <;> contradiction))).symm.trans HT.out
                rw [byte_is] at n44
                rw [byte_is] at n32
                rw [byte_is] at n9
                generalize (L.getD i 0).toNat = x at hcell n44 n32 n9
                have n44' : ¬ x = 44 := n44
                have n32' : ¬ x = 32 := n32
                have n9' : ¬ x = 9 := n9
                clear n44 n32 n9
                have b44 : ((x : Int) == 44) = false := beq_eq_false_iff_ne.2 (by omega)
                have m44 : ((x : Int) != 44) = true := by rw [bne, b44]; rfl
                have b32 : ((x : Int) == 32) = false := beq_eq_false_iff_ne.2 (by omega)
                have m32 : ((x : Int) != 32) = true := by rw [bne, b32]; rfl
                have b9 : ((x : Int) == 9) = false := beq_eq_false_iff_ne.2 (by omega)
                have m9 : ((x : Int) != 9) = true := by rw [bne, b9]; rfl
                clear n44' n32' n9'
                obtain rfl : TS = [] := HT2.out.symm
                go_wp2
                go_ret
                exact ⟨_, rfl, holds_nil _, hb1.trans (HBL.out.mono hb1.size)⟩
            · have hin : i = n := by omega
              subst hin
              have hE := st_end L st start i tags (by rw [HN.out]; exact Nat.le_refl _)
              rw [hE] at HT
              clear hE hnil hT hbl hown
              rcases (show st = 0 ∨ st = 1 ∨ st = 2 ∨ st = 3 ∨ st = 4 by omega) with rfl | rfl | rfl | rfl | rfl
              · have h7' : _ = Value.int .i64 0 := h7
                subst h7'
                clear h7
                obtain rfl : TS = tags := HT.out.symm
                go_wp2
                go_ret
                exact ⟨_, rfl, holds_own HO.out HNI.out, hb1.trans (HBL.out.mono hb1.size)⟩
              · have h7' : _ = Value.int .i64 1 := h7
                subst h7'
                clear h7
                obtain rfl : TS = [] := HT.out.symm
                go_wp2
                go_ret
                exact ⟨_, rfl, holds_nil _, hb1.trans (HBL.out.mono hb1.size)⟩
              · have h7' : _ = Value.int .i64 2 := h7
                subst h7'
                clear h7
                obtain rfl : TS = [] := HT.out.symm
                go_wp2
                go_ret
                exact ⟨_, rfl, holds_nil _, hb1.trans (HBL.out.mono hb1.size)⟩
              · have h7' : _ = Value.int .i64 3 := h7
                subst h7'
                clear h7
                obtain rfl : TS = [] := HT.out.symm
                go_wp2
                go_ret
                exact ⟨_, rfl, holds_nil _, hb1.trans (HBL.out.mono hb1.size)⟩
              · have h7' : _ = Value.int .i64 4 := h7
                subst h7'
                clear h7
                obtain rfl : TS = tags := HT.out.symm
                go_wp2
                go_ret
                exact ⟨_, rfl, holds_own HO.out HNI.out, hb1.trans (HBL.out.mono hb1.size)⟩
end Go.Proofs.Qxb6601561aDoor
