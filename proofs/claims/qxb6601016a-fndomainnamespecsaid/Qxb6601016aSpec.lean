/-
  THE WALK OF FnDomainNameSpec (function 6).
-/
import Derived.Test.Qxb6601016aRows
import Derived.WalkKit
import Derived.ProofKit
import Derived.Below
import Derived.Deep.QuietTactic
import Derived.BigQuiet
import Derived.Deep.DeepCutAuto
import Derived.Test.Qxb6601016aName
import Derived.Test.Qxb6601016aSpecPlain
namespace Go.Proofs.Qxb6601016a
open Go.RowKit
set_option linter.unusedVariables false

theorem bytes15_yes (n : Int) (s : ByteArray) (h : s.size ≤ 1048576) (w : World) :
    Calls Try.prog 15 #[.int .u64 n, .string s] w fun e w' => e = .returned (.bool true) ∧ w' = w := by
  go_enter Try.func15, Try.ntmps15
  go_wp2
  go_ret
  exact ⟨rfl, rfl⟩

theorem bytes15_no (n : Int) (s : ByteArray) (h : 1048576 < s.size) (w : World) :
    Calls Try.prog 15 #[.int .u64 n, .string s] w fun e w' => e = .returned (.bool false) ∧ w' = w := by
  go_enter Try.func15, Try.ntmps15
  go_wp2
  go_ret
  exact ⟨rfl, rfl⟩

/-- The law's array of digits in block D, one of the call's own: 20 cells, none frozen; the first are the bytes l; below D nothing has turned since w. -/
structure Dig (D : Nat) (w wr : World) (l : List UInt8) : Prop where
  below : Below D w wr
  lt : D < wr.heap.size
  there : ∀ j, j < 20 → ∃ v, wr.cell? ⟨D, j, none⟩ = some v
  soft : ∀ j, j < 20 → wr.frozen? ⟨D, j, none⟩ = false
  holds : ∀ (j : Nat) (c : UInt8), l[j]? = some c → wr.cell? ⟨D, j, none⟩ = some (.int .u8 c.toNat)

theorem Dig.push {D : Nat} {w wr : World} {l : List UInt8} (h : Dig D w wr l) (hl : l.length < 20) (c : UInt8) (x : Int) (hx : x = (c.toNat : Int)) : Dig D w (wr.setCell ⟨D, l.length, none⟩ (.int .u8 x)) (l ++ [c]) := by
  subst hx
  refine ⟨h.below.setCell (p := ⟨D, l.length, none⟩) (Nat.le_refl D) _, by simpa [World.setCell] using h.lt, ?_, ?_, ?_⟩
  · intro j hj
    obtain ⟨v, hv⟩ := h.there j hj
    exact cell?_setCell_some hv
  · intro j hj
    rw [World.frozen?_setCell]; exact h.soft j hj
  · intro j d hj
    by_cases hjl : j = l.length
    · subst hjl
      simp at hj
      subst hj
      obtain ⟨v, hv⟩ := h.there l.length hl
      exact World.cell?_setCell_same _ _ _ hv
    · have hlt : j < l.length := by
        rcases Nat.lt_or_ge j (l ++ [c]).length with h' | h'
        · simp at h'; omega
        · rw [List.getElem?_eq_none h'] at hj; cases hj
      rw [World.cell?_setCell_other]
      · exact h.holds j d (by rw [List.getElem?_append_left hlt] at hj; exact hj)
      · intro e
        injection e with _ e2
        exact hjl e2.symm

def zeros : Array Value := #[.int .u8 0, .int .u8 0, .int .u8 0, .int .u8 0, .int .u8 0, .int .u8 0, .int .u8 0, .int .u8 0, .int .u8 0, .int .u8 0, .int .u8 0, .int .u8 0, .int .u8 0, .int .u8 0, .int .u8 0, .int .u8 0, .int .u8 0, .int .u8 0, .int .u8 0, .int .u8 0]

theorem Dig.start (w : World) : Dig w.heap.size w (w.alloc (.cells zeros 30)) [] := by
  have h1 := alloc_at w (.cells zeros 30)
  have hz : zeros = Array.replicate 20 (.int .u8 0) := rfl
  refine ⟨(Below.refl _ _).alloc (Nat.le_refl _) _, by simp, ?_, ?_, ?_⟩
  · intro j hj
    refine ⟨.int .u8 0, ?_⟩
    simp only [World.cell?]
    rw [h1, hz]
    simp [hj]
  · intro j hj
    simp only [World.frozen?]
    rw [h1]
    simp
  · intro j c h
    simp at h

/-! ### The suffix's final dot -/

def dotB (s : ByteArray) : Bool := s.data.toList.getLast? == some 46

theorem dotB_some (s : ByteArray) (h : 0 < s.size) : ((s[s.size - 1].toNat : Int) == 46) = dotB s := by
  have h1 : s.data.toList.length = s.size := by simp
  have h2 : s.data.toList.getLast? = some s[s.size - 1] := by
    rw [List.getLast?_eq_getElem?, h1, List.getElem?_eq_getElem (by omega)]; rfl
  unfold dotB
  rw [h2, Bool.eq_iff_iff]
  simp only [beq_iff_eq, Option.some.injEq]
  constructor
  · intro h; exact UInt8.toNat_inj.1 (by show _ = 46; omega)
  · intro h; rw [h]; rfl

theorem dotB_none (s : ByteArray) (h : ¬ 0 < s.size) : dotB s = false := by
  have h1 : s.data.toList.length = s.size := by simp
  have h2 : s.data.toList = [] := List.eq_nil_of_length_eq_zero (by omega)
  unfold dotB
  rw [h2]; rfl

theorem dotB_true {s : ByteArray} (h : dotB s = true) : 0 < s.size ∧ (s.extract 0 (s.size - 1)).data.toList = Plain.trim s.data.toList := by
  have h1 : s.data.toList.length = s.size := by simp
  unfold dotB at h
  rw [beq_iff_eq] at h
  obtain ⟨l, hl⟩ := List.getLast?_eq_some_iff.1 h
  refine ⟨by rw [← h1, hl]; simp, ?_⟩
  rw [hl, Plain.trim_dot]
  have h3 : (s.extract 0 (s.size - 1)).data.toList = (s.data.toList.drop 0).take (s.size - 1 - 0) := by
    rw [← Lib.extract_toList, Lib.toList_data]
  rw [h3, ← h1, hl]
  simp

theorem dotB_false {s : ByteArray} (h : dotB s = false) : s.data.toList = Plain.trim s.data.toList := by
  unfold dotB at h
  rw [beq_eq_false_iff_ne] at h
  exact (Plain.trim_not h).symm

/-- The name's length. -/
theorem name_len (n : Nat) (s : List UInt8) (nm l t : List UInt8) (hnm : nm = Plain.name n s) (hl : l = (Plain.lsd n).reverse) (ht : t = Plain.trim s) : nm.length = 2 * l.length + if t.length = 0 then 0 else t.length + 1 := by
  subst hnm hl ht
  unfold Plain.name Plain.tail
  rw [List.length_append, Plain.labels_length, List.length_reverse, Plain.lsd_length]
  by_cases h : Plain.trim s = []
  · rw [if_pos h, h]; simp
  · have h' : ¬ (Plain.trim s).length = 0 := fun e => h (List.eq_nil_of_length_eq_zero e)
    rw [if_neg h, if_neg h', List.length_append]; simp

/-- Digit i of the name, and the law's array read from behind. -/
theorem digits_at (n : Nat) (s nm l : List UInt8) (hnm : nm = Plain.name n s) (hl : l = (Plain.lsd n).reverse) (i : Nat) (hi : i < l.length) : ∃ c : UInt8, nm[2 * i]? = some c ∧ nm[2 * i + 1]? = some 46 ∧ l[l.length - 1 - i]? = some c := by
  subst hnm hl
  rw [List.length_reverse] at hi ⊢
  have hN := Plain.lsd_length n
  have hL := Plain.labels_length n
  obtain ⟨h1, h2⟩ := Plain.labels_at n i (by omega)
  unfold Plain.name
  refine ⟨(Plain.lsd n)[i], ?_, ?_, ?_⟩
  · rw [List.getElem?_append_left (by omega), h1, List.getElem?_eq_getElem hi]
  · rw [List.getElem?_append_left (by omega), h2]
  · rw [List.getElem?_reverse (by omega), List.getElem?_eq_getElem (by omega)]
    congr 2
    omega

theorem more_draws {w wr : World} (h : ∃ n, wr = w.drewN n) (m : Nat) : ∃ n, wr.drewN m = w.drewN n := by
  obtain ⟨n, rfl⟩ := h
  exact ⟨n + m, by simp⟩

theorem below_draws {B : Nat} {a w wr : World} (h : Below B a w) (hd : ∃ n, wr = w.drewN n) : Below B a wr := by
  obtain ⟨n, rfl⟩ := hd
  exact ⟨h.os, h.tape, h.output, h.size, h.block⟩

/-- The suffix's byte j in the name. -/
theorem suffix_at (n : Nat) (s nm l : List UInt8) (tb : ByteArray) (hnm : nm = Plain.name n s) (hl : l = (Plain.lsd n).reverse) (ht : tb.data.toList = Plain.trim s) (j : Nat) (hj : j < tb.size) : nm[2 * l.length + j]? = some tb[j] ∧ 2 * l.length + j < nm.length := by
  have h1 : tb.data.toList.length = tb.size := by simp
  have h2 : tb.data.toList[j]? = some tb[j] := by rw [List.getElem?_eq_getElem (by omega)]; rfl
  have hne : Plain.trim s ≠ [] := by intro h; rw [h] at ht; rw [ht] at h1; simp at h1; omega
  have hL : (Plain.labels n).length = 2 * l.length := by rw [Plain.labels_length, hl, List.length_reverse, Plain.lsd_length]
  subst hnm
  unfold Plain.name Plain.tail
  rw [if_neg hne, ← ht]
  refine ⟨?_, ?_⟩
  · rw [List.getElem?_append_right (by omega), hL, show 2 * l.length + j - 2 * l.length = j by omega, List.getElem?_append_left (by omega), h2]
  · rw [List.length_append, List.length_append]; omega

theorem last_at {nm : List UInt8} (h : ∃ t, nm = t ++ [46]) : nm[nm.length - 1]? = some 46 := by
  obtain ⟨t, rfl⟩ := h
  simp

set_option maxRecDepth 100000 in
set_option maxHeartbeats 1000000 in
theorem spec_calls (n : Nat) (s : ByteArray) (hn : n ≤ 18446744073709551615) (w : World) :
    Calls Try.prog 6 #[.int .u64 n, .string s] w fun e w' => e = .returned (.bool true) ∧ Below w.heap.size w w' := by
  by_cases hs : s.size ≤ 1048576
  · go_enter Try.func6, Try.ntmps6
    go_wp2_with fail
    refine (bytes15_yes _ s hs _).mono ?_
    rintro e w1 ⟨rfl, rfl⟩
    go_wp2_with fail
    have hD := Dig.start w1
    go_loopw [6, 7, 8, 9] (fun x y z _ wr => ∃ (k : Int) (m : Nat) (b : Bool) (l : List UInt8), k = (m : Int) - 1 ∧ m ≤ 20 ∧ l.length ≤ 20 ∧ x = .int .i64 l.length ∧ y = .bool b ∧ z = .int .i64 k ∧ Dig w1.heap.size w1 wr l ∧ Hid (l = Plain.gathered n m) ∧ Hid (m ≠ 0 → (b = true ↔ n / 10 ^ m ≠ 0))) (fun _ _ z _ _ => (intOf z + 1).toNat)
    case atStart => exact ⟨19, 20, false, [], by omega, by omega, by simp, rfl, rfl, rfl, hD, (Plain.gathered_top hn).symm, fun _ => by simp; omega⟩
    case round =>
      obtain ⟨k, m, b, l, hkm, hm, hl20, rfl, rfl, rfl, hDig, hl, hb⟩ := hrel
      cases m with
      | zero =>
        obtain rfl : k = -1 := by omega
        clear hkm hb hm hD
        have hll : Hid (l = (Plain.lsd n).reverse) := hl.out
        clear hl
        go_upto_region 17 with fail
        go_cut [58] (fun x wc => wc = wr ∧ x = .bool (dotB s))
        case first =>
          go_wp2_with fail
          · go_meet
            case rel => exact ⟨rfl, by rw [dotB_some s (by assumption)]⟩
          · go_meet
            case rel => exact ⟨rfl, by rw [dotB_none s (by assumption)]⟩
        case rest =>
        obtain ⟨rfl, rfl⟩ := hcut
        go_upto_if 58 with fail
        go_cut [10] (fun x wd => ∃ tb : ByteArray, wd = wc ∧ x = .string tb ∧ tb.size ≤ s.size ∧ Hid (tb.data.toList = Plain.trim s.data.toList))
        case first =>
          cases hdb : dotB s with
          | true =>
            obtain ⟨h0, htr⟩ := dotB_true hdb
            have htr' : Hid _ := htr
            clear htr
            go_wp2_with fail
            go_meet
            case rel => exact ⟨_, rfl, rfl, by rw [ByteArray.size_extract]; omega, htr'.out⟩
          | false =>
            have htr' : Hid _ := dotB_false hdb
            go_wp2_with fail
            go_meet
            case rel => exact ⟨_, rfl, rfl, Nat.le_refl _, htr'.out⟩
        case rest =>
        obtain ⟨tb, rfl, rfl, htb, htr⟩ := hcut
        obtain ⟨nm, hnm⟩ : ∃ nm, Hid (nm = Plain.name n s.data.toList) := ⟨_, rfl⟩
        obtain ⟨hp, hq, hlast⟩ := name_bounds n s nm hnm.out hn hs
        have hlast' : Hid (∃ t, nm = t ++ [46]) := hlast
        clear hlast
        have hlen : Hid (nm.length = 2 * l.length + if tb.size = 0 then 0 else tb.size + 1) := by
          have h1 : tb.data.toList.length = tb.size := by simp
          have h2 := name_len n s.data.toList nm l tb.data.toList hnm.out hll.out htr.out
          rw [h1] at h2; exact h2
        go_upto_if 68 with fail
        go_cut [11] (fun x we => we = wc ∧ ∃ W : Nat, x = .int .i64 W ∧ Hid (W = nm.length))
        case first =>
          by_cases h0 : 0 < tb.size
          · have hlen' : Hid (nm.length = 2 * l.length + (tb.size + 1)) := by show _ = _; rw [hlen.out, if_neg (by omega)]
            go_wp2_with fail
            go_meet
            case rel => exact ⟨rfl, 2 * l.length + (tb.size + 1), by go_num, hlen'.out.symm⟩
          · have hlen' : Hid (nm.length = 2 * l.length) := by show _ = _; rw [hlen.out, if_pos (by omega)]; rfl
            go_wp2_with fail
            go_meet
            case rel => exact ⟨rfl, 2 * l.length, by go_num, hlen'.out.symm⟩
        case rest =>
        obtain ⟨rfl, W, rfl, hW⟩ := hcut
        have hne : ((nm.length : Int) != (W : Int)) = false := by rw [hW.out]; simp
        go_wp2_with fail
        refine (named_calls n s nm hnm hn (by omega) _).mono ?_
        rintro e w5 ⟨rfl, hB5⟩
        have hcell : ∀ i, i < l.length → ∃ c : UInt8, nm[2 * i]? = some c ∧ nm[2 * i + 1]? = some 46 ∧ w5.cell? ⟨w1.heap.size, l.length - 1 - i, none⟩ = some (.int .u8 c.toNat) := by
          intro i hi
          obtain ⟨c, h1, h2, h3⟩ := digits_at n s.data.toList nm l hnm.out hll.out i hi
          refine ⟨c, h1, h2, ?_⟩
          rw [hB5.cell (p := ⟨w1.heap.size, l.length - 1 - i, none⟩) hDig.lt]
          exact hDig.holds _ c h3
        have hcell' : Hid _ := hcell
        have hBel : Hid (Below w1.heap.size w1 w5) := hDig.below.trans (hB5.mono (Nat.le_of_lt hDig.lt))
        clear hcell hB5 hDig
        go_wp2_with fail
        go_loopw [13] (fun x wr => ∃ i : Nat, i ≤ l.length ∧ x = .int .i64 i ∧ Hid (∃ n, wr = w5.drewN n)) (fun x _ => l.length - (intOf x).toNat)
        case atStart => exact ⟨0, by omega, rfl, ⟨0, rfl⟩⟩
        case round =>
          obtain ⟨i, hi, rfl, hwr⟩ := hrel
          by_cases hlt : i < l.length
          · obtain ⟨c, h1, h2, h3⟩ := hcell'.out i hlt
            have hb2 : 2 * i + 1 < nm.length := by
              rcases Nat.lt_or_ge (2 * i + 1) nm.length with h | h
              · exact h
              · rw [List.getElem?_eq_none h] at h2; cases h2
            have hs1 : 2 * i < (⟨nm.toArray⟩ : ByteArray).size := by show 2 * i < nm.toArray.size; simp; omega
            have hs2 : 2 * i + 1 < (⟨nm.toArray⟩ : ByteArray).size := by show 2 * i + 1 < nm.toArray.size; simp; omega
            have g1 : (⟨nm.toArray⟩ : ByteArray)[2 * i] = c := by have := at_mk nm (2 * i) hs1; rw [h1] at this; exact (Option.some.inj this).symm
            have g2 : (⟨nm.toArray⟩ : ByteArray)[2 * i + 1] = 46 := by have := at_mk nm (2 * i + 1) hs2; rw [h2] at this; exact (Option.some.inj this).symm
            have h3' : wr.cell? ⟨w1.heap.size, l.length - 1 - i, none⟩ = some (.int .u8 c.toNat) := by
              obtain ⟨m, hm⟩ := hwr.out
              rw [hm]; exact h3
            clear h1 h2 h3
            have z1 : (0 : Int) ≤ 2 * (i : Int) := by omega
            have z2 : 2 * (i : Int) < (nm.length : Int) := by omega
            have z3 : (0 : Int) ≤ 2 * (i : Int) + 1 := by omega
            have z4 : 2 * (i : Int) + 1 < (nm.length : Int) := by omega
            have z5 : (0 : Int) ≤ (l.length : Int) - 1 - (i : Int) := by omega
            have z6 : (l.length : Int) - 1 - (i : Int) < 20 := by omega
            go_wp2_with fail
            go_quiet (fail)
            go_wp2_with fail
            go_roundw
            case rel => exact ⟨i + 1, by omega, by go_num, more_draws hwr.out _⟩
            case measure => simp [intOf]; omega
          · clear hcell'
            go_wp2_with fail
            go_loopw [14] (fun x ws => ∃ j : Nat, j ≤ tb.size ∧ x = .int .i64 j ∧ Hid (∃ n, ws = w5.drewN n)) (fun x _ => tb.size - (intOf x).toNat)
            case atStart => exact ⟨0, by omega, rfl, hwr⟩
            case round =>
              obtain ⟨j, hj, rfl, hws⟩ := hrel
              by_cases hjt : j < tb.size
              · obtain ⟨h1, hb2⟩ := suffix_at n s.data.toList nm l tb hnm.out hll.out htr.out j hjt
                have hs1 : 2 * l.length + j < (⟨nm.toArray⟩ : ByteArray).size := by show 2 * l.length + j < nm.toArray.size; simp; omega
                have g1 : (⟨nm.toArray⟩ : ByteArray)[2 * l.length + j] = tb[j] := by have := at_mk nm (2 * l.length + j) hs1; rw [h1] at this; exact (Option.some.inj this).symm
                clear h1
                have z1 : (0 : Int) ≤ 2 * (l.length : Int) + (j : Int) := by omega
                have z2 : 2 * (l.length : Int) + (j : Int) < (nm.length : Int) := by omega
                have z3 : (j : Int) < (tb.size : Int) := by omega
                go_wp2_with fail
                go_quiet (fail)
                go_wp2_with fail
                go_roundw
                case rel => exact ⟨j + 1, by omega, by go_num, more_draws hws.out _⟩
                case measure => simp [intOf]; omega
              · have hfin : Hid (Below w1.heap.size w1 wr) := below_draws hBel.out hws.out
                by_cases h0 : 0 < tb.size
                · have hs1 : nm.length - 1 < (⟨nm.toArray⟩ : ByteArray).size := by show nm.length - 1 < nm.toArray.size; simp; omega
                  have g1 : (⟨nm.toArray⟩ : ByteArray)[nm.length - 1] = 46 := by
                    have := at_mk nm (nm.length - 1) hs1
                    rw [last_at hlast'.out] at this; exact (Option.some.inj this).symm
                  go_wp2_with fail
                  go_ret
                  exact ⟨rfl, hfin.out⟩
                · go_wp2_with fail
                  go_ret
                  exact ⟨rfl, hfin.out⟩
      | succ mm =>
        obtain rfl : k = (mm : Int) := by omega
        clear hkm
        obtain ⟨p, hp⟩ : ∃ p : Nat, Hid (p = 10 ^ mm) := ⟨_, rfl⟩
        obtain ⟨q, hq⟩ : ∃ q : Nat, Hid (q = n / p) := ⟨_, rfl⟩
        have hqI : (n : Int) / (p : Int) = (q : Int) := by rw [hq.out]; simp
        have hqb : q ≤ 18446744073709551615 := by rw [hq.out]; exact Nat.le_trans (Nat.div_le_self _ _) hn
        obtain ⟨d, hd⟩ : ∃ d : Nat, Hid (d = n / p % 10) := ⟨_, rfl⟩
        have hdq : Hid (d = q % 10) := by show _ = _; rw [hd.out, hq.out]
        have hp1 : 1 ≤ p := by rw [hp.out]; exact Nat.one_le_pow _ _ (by omega)
        have hp2 : p ≤ 10000000000000000000 := by rw [hp.out]; exact Plain.pow_19 (by omega)
        have hroom : l.length ≤ 19 := by rw [hl.out]; exact Plain.gathered_room hn
        have hb' := hb.out (by omega)
        have hbeg := Plain.begun_step hp.out hd.out
        have hb'' : Hid (b = true ↔ n / 10 ^ (mm + 1) ≠ 0) := hb'
        have hbeg' : Hid (n / 10 ^ mm ≠ 0 ↔ d ≠ 0 ∨ n / 10 ^ (mm + 1) ≠ 0) := hbeg
        clear hb' hbeg hb
        obtain ⟨v, hv⟩ := hDig.there l.length (by omega)
        have hfz := hDig.soft l.length (by omega)
        by_cases hd0 : d = 0
        · have hdt : ((q : Int) % 10 != 0) = false := by
            rw [bne_eq_false_iff_eq]; have := hdq.out; omega
          cases b with
          | true =>
            have hbt : Hid (n / 10 ^ (mm + 1) ≠ 0) := hb''.out.1 rfl
            have hnew : Hid (l ++ [Plain.digit d] = Plain.gathered n mm) := by
              show _ = _
              rw [Plain.gathered_push hp.out hd.out (.inr (.inl hbt.out)), hl.out]
            have HD : Hid (d = 0) := hd0
            clear hd0
            go_wp2_with fail
            refine (pow_calls mm p (by omega) hp _).mono ?_
            rintro e w3 ⟨rfl, rfl⟩
            go_wp2_with fail
            go_roundw
            case rel => exact ⟨(mm : Int) - 1, mm, true, l ++ [Plain.digit d], rfl, by omega, by simp; omega, by rw [List.length_append]; go_num, rfl, rfl, hDig.push (by omega) (Plain.digit d) _ (by rw [Plain.digit_toNat]; have := hdq.out; omega), hnew, fun _ => ⟨fun _ => hbeg'.out.2 (.inr hbt.out), fun _ => rfl⟩⟩
            case measure => simp [intOf]
          | false =>
            have hq0 : n / 10 ^ (mm + 1) = 0 := by
              rcases Nat.eq_zero_or_pos (n / 10 ^ (mm + 1)) with h | h
              · exact h
              · exact absurd (hb''.out.2 (by omega)) (by simp)
            by_cases hm0 : mm = 0
            · have hnew : Hid (l ++ [Plain.digit d] = Plain.gathered n mm) := by
                show _ = _
                rw [Plain.gathered_push hp.out hd.out (.inr (.inr hm0)), hl.out]
              have HD : Hid (d = 0) := hd0
              have HM : Hid (mm = 0) := hm0
              have hmt : ((mm : Int) == 0) = true := by rw [beq_iff_eq]; omega
              clear hd0 hm0 hq0
              go_wp2_with fail
              refine (pow_calls mm p (by omega) hp _).mono ?_
              rintro e w3 ⟨rfl, rfl⟩
              go_wp2_with fail
              go_roundw
              case rel => exact ⟨(mm : Int) - 1, mm, true, l ++ [Plain.digit d], rfl, by omega, by simp; omega, by rw [List.length_append]; go_num, rfl, rfl, hDig.push (by omega) (Plain.digit d) _ (by rw [Plain.digit_toNat]; have := hdq.out; omega), hnew, fun h => absurd HM.out h⟩
              case measure => simp [intOf]
            · have hnew : Hid (l = Plain.gathered n mm) := by
                show _ = _
                rw [Plain.gathered_skip hp.out hd.out hd0 hq0 hm0, hl.out]
              have HB : Hid (¬ n / 10 ^ mm ≠ 0) := by
                intro h
                rcases hbeg'.out.1 h with h1 | h1
                · exact h1 hd0
                · exact h1 hq0
              have hmt : ((mm : Int) == 0) = false := by rw [beq_eq_false_iff_ne]; omega
              clear hd0 hm0 hq0
              go_wp2_with fail
              refine (pow_calls mm p (by omega) hp _).mono ?_
              rintro e w3 ⟨rfl, rfl⟩
              go_wp2_with fail
              go_roundw
              case rel => exact ⟨(mm : Int) - 1, mm, false, l, rfl, by omega, hl20, rfl, rfl, rfl, hDig, hnew, fun _ => ⟨fun h => (by cases h), fun h => absurd h HB.out⟩⟩
              case measure => simp [intOf]
        · have hdt : ((q : Int) % 10 != 0) = true := by
            rw [bne_iff_ne]; have := hdq.out; omega
          have hnew : Hid (l ++ [Plain.digit d] = Plain.gathered n mm) := by
            show _ = _
            rw [Plain.gathered_push hp.out hd.out (.inl hd0), hl.out]
          have HD : Hid (d ≠ 0) := hd0
          clear hd0
          go_wp2_with fail
          refine (pow_calls mm p (by omega) hp _).mono ?_
          rintro e w3 ⟨rfl, rfl⟩
          go_wp2_with fail
          go_roundw
          case rel => exact ⟨(mm : Int) - 1, mm, true, l ++ [Plain.digit d], rfl, by omega, by simp; omega, by rw [List.length_append]; go_num, rfl, rfl, hDig.push (by omega) (Plain.digit d) _ (by rw [Plain.digit_toNat]; have := hdq.out; omega), hnew, fun _ => ⟨fun _ => hbeg'.out.2 (.inl HD.out), fun _ => rfl⟩⟩
          case measure => simp [intOf]
  · have hs' : 1048576 < s.size := by omega
    go_enter Try.func6, Try.ntmps6
    go_wp2_with fail
    refine (bytes15_no _ s hs' _).mono ?_
    rintro e w1 ⟨rfl, rfl⟩
    go_wp2_with fail
    go_ret
    exact ⟨rfl, Below.refl _ _⟩
end Go.Proofs.Qxb6601016a
