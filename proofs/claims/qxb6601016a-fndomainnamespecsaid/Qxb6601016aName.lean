/-
  THE CONTRACT OF (e164.Number).DomainName (function 14).
-/
import Derived.Test.Qxb6601016aRows
import Derived.WalkKit
import Derived.ProofKit
import Derived.Below
import Derived.Test.Qxb6601016aLens
import Derived.Test.Qxb6601016aNamePlain
import Derived.Test.Qxb6601016aShelf
namespace Go.Proofs.Qxb6601016a
open Go.RowKit
set_option linter.unusedVariables false

/-- strings.TrimSuffix at the one dot, the result under a name of its own. -/
theorem trim_calls (s : ByteArray) (t : List UInt8) (ht : Hid (t = Plain.trim s.data.toList)) (w : World) (hs : s.size ≤ 9223372036854775807) :
    Calls Try.prog 22 #[.string s, .string ⟨#[46]⟩] w fun e w' => e = .returned (.string ⟨t.toArray⟩) ∧ w' = w := by
  rw [ht.out]
  exact trimSuffix_calls s ⟨#[46]⟩ w hs

/-- Grow at an int that is a variable. -/
theorem grow_calls (B : Nat) (g : Int) (w : World) (hbk : w.heap[B]? = some (.cells #[.pointer none, .slice none 0 0] 38 (0, 0))) (hBw : B ≤ w.heap.size) (h0 : 0 ≤ g) (h1 : g ≤ 281474976710656) :
    Calls Try.prog 23 #[.pointer (some ⟨B, 0, none⟩), .int .i64 g] w fun e w' => e = .returned (.tuple #[]) ∧ (Lib.BuilderAt 38 5 B B (.pointer (some ⟨B, 0, none⟩)) [] w' ∧ Below B w w') := by
  obtain ⟨n, rfl⟩ := Int.eq_ofNat_of_zero_le h0
  exact bGrow B B n w (Nat.le_refl _) hbk hBw (by omega)

/-- The builder in block B, one of the call's own, holding the bytes l; below B nothing has turned since w. -/
def Has (w : World) (B : Nat) (l : List UInt8) (wr : World) : Prop :=
  Lib.BuilderAt 38 5 B B (.pointer (some ⟨B, 0, none⟩)) (Lib.byteCells l) wr ∧ Below B w wr ∧ B ≤ wr.heap.size

theorem byteCells_snoc (l : List UInt8) (c : UInt8) : Lib.byteCells l ++ [.int .u8 (c.toNat : Int)] = Lib.byteCells (l ++ [c]) := by
  simp [Lib.byteCells]

theorem writeByte_calls (w : World) (B : Nat) (l : List UInt8) (c : UInt8) (x : Int) (wr : World) (h : Has w B l wr) (hx : x = (c.toNat : Int)) (hlen : l.length + 1 ≤ 140737488355328) :
    Calls Try.prog 24 #[.pointer (some ⟨B, 0, none⟩), .int .u8 x] wr fun e w' => e = .returned .nilIface ∧ Has w B (l ++ [c]) w' := by
  subst hx
  refine (bWriteByte B B (Lib.byteCells l) c.toNat wr (.inr h.1) (by rw [Lib.byteCells_length]; exact hlen) h.2.2).mono ?_
  rintro e w' ⟨rfl, hb, hB⟩
  rw [byteCells_snoc] at hb
  exact ⟨rfl, hb, h.2.1.trans hB, Nat.le_trans h.2.2 hB.size⟩

theorem writeString_calls (w : World) (B : Nat) (l t : List UInt8) (wr : World) (h : Has w B l wr) (hlen : l.length + t.length ≤ 140737488355328) :
    Calls Try.prog 25 #[.pointer (some ⟨B, 0, none⟩), .string ⟨t.toArray⟩] wr fun e w' => (∃ v0 v1, e = .returned (.tuple #[v0, v1])) ∧ Has w B (l ++ t) w' := by
  refine (bWriteString B B (Lib.byteCells l) ⟨t.toArray⟩ wr (.inr h.1) (by rw [Lib.byteCells_length]; show _ + t.toArray.size ≤ _; simpa using hlen) h.2.2).mono ?_
  rintro e w' ⟨rfl, hb, hB⟩
  have e1 : Lib.byteCells l ++ Lib.strCells ⟨t.toArray⟩ = Lib.byteCells (l ++ t) := by simp [Lib.byteCells, Lib.strCells]
  rw [e1] at hb
  exact ⟨⟨_, _, rfl⟩, hb, h.2.1.trans hB, Nat.le_trans h.2.2 hB.size⟩

theorem string_calls (w : World) (B : Nat) (l : List UInt8) (wr : World) (h : Has w B l wr) (h0 : l ≠ []) :
    Calls Try.prog 26 #[.pointer (some ⟨B, 0, none⟩)] wr fun e w' => e = .returned (.string ⟨l.toArray⟩) ∧ Below B w w' := by
  refine (bString B B l wr (.inr h.1) h0).mono ?_
  rintro e w' ⟨rfl, hB⟩
  exact ⟨rfl, h.2.1.trans hB⟩

theorem alloc_at (w : World) (o : Obj) : (w.alloc o).heap[w.heap.size]? = some o := by
  show (w.heap.push o)[w.heap.size]? = some o
  simp

theorem ret_list {a b : List UInt8} (h : a = b) : Ending.returned (.string ⟨a.toArray⟩) = .returned (.string ⟨b.toArray⟩) := by rw [h]

theorem name_calls (n : Nat) (s : ByteArray) (hn : n ≤ 18446744073709551615) (hs : s.size ≤ 2000000) (w : World) :
    Calls Try.prog 14 #[.int .u64 n, .string s] w fun e w' => e = .returned (.string ⟨(Plain.name n s.data.toList).toArray⟩) ∧ Below w.heap.size w w' := by
  have hN := Plain.numLen_20 hn
  have hL : Hid ((Plain.labels n).length = 2 * Plain.numLen n) := Plain.labels_length n
  obtain ⟨t, ht⟩ : ∃ t, Hid (t = Plain.trim s.data.toList) := ⟨_, rfl⟩
  have htl : t.length ≤ 2000000 := by
    rw [ht.out]; exact Nat.le_trans (Plain.trim_le _) (by simpa using hs)
  have hname : Hid (Plain.name n s.data.toList = Plain.labels n ++ Plain.tail t) := by show _ = _; rw [ht.out]; rfl
  go_enter Try.func14, Try.ntmps14
  go_wp2_with fail
  refine (trim_calls s t ht _ (by omega)).mono ?_
  rintro e w1 ⟨rfl, rfl⟩
  go_wp2_with fail
  refine (len_calls n hn _).mono ?_
  rintro e w2 ⟨rfl, rfl⟩
  go_wp2_with fail
  refine (grow_calls w1.heap.size _ _ (alloc_at _ _) (by simp) (by omega) (by omega)).mono ?_
  rintro e w2 ⟨rfl, hB, hbel⟩
  have hHas : Has w1 w1.heap.size [] w2 := ⟨hB, ((Below.refl _ _).alloc (Nat.le_refl _) _).trans hbel, by have := hbel.size; simp at this; omega⟩
  clear hB hbel
  go_wp2_with fail
  go_loopw [0] (fun x wr => ∃ (c : Nat) (l : List UInt8), c ≤ 18446744073709551615 ∧ x = .int .u64 c ∧ Has w1 w1.heap.size l wr ∧ Hid (l ++ Plain.labels c = Plain.labels n)) (fun x _ => (intOf x).toNat)
  case atStart => exact ⟨n, [], hn, rfl, hHas, rfl⟩
  case round =>
    obtain ⟨c, l, hc, rfl, hH, hl⟩ := hrel
    have hll : l.length ≤ 40 := by
      have h1 := congrArg List.length hl.out
      have h2 := hL.out
      rw [List.length_append] at h1
      omega
    by_cases hlt : c < 10
    · have hfin : Hid (l ++ [Plain.digit c] ++ [46] = Plain.labels n) := by
        show _ = _
        rw [← hl.out, Plain.labels_small hlt]; simp
      have hq : ((c : Int) / 10 == 0) = true := by rw [beq_iff_eq]; omega
      go_wp2_with fail
      refine (writeByte_calls w1 w1.heap.size l (Plain.digit c) _ wr hH (by rw [Plain.digit_toNat]; omega) (by omega)).mono ?_
      rintro e w3 ⟨rfl, hH3⟩
      go_wp2_with fail
      refine (writeByte_calls w1 w1.heap.size (l ++ [Plain.digit c]) 46 _ w3 hH3 rfl (by simp; omega)).mono ?_
      rintro e w4 ⟨rfl, hH4⟩
      rw [hfin.out] at hH4
      cases hte : t.isEmpty
      · have hnm : Hid (Plain.labels n ++ (t ++ [46]) = Plain.name n s.data.toList) := by
          show _ = _
          rw [hname.out, Plain.tail, if_neg (by intro h; rw [h] at hte; cases hte)]
        go_wp2_with fail
        refine (writeString_calls w1 w1.heap.size (Plain.labels n) t w4 hH4 (by have := hL.out; omega)).mono ?_
        rintro e w5 ⟨⟨v0, v1, rfl⟩, hH5⟩
        go_wp2_with fail
        refine (writeByte_calls w1 w1.heap.size (Plain.labels n ++ t) 46 _ w5 hH5 rfl (by have := hL.out; simp; omega)).mono ?_
        rintro e w6 ⟨rfl, hH6⟩
        go_wp2_with fail
        refine (string_calls w1 w1.heap.size _ w6 hH6 (by simp)).mono ?_
        rintro e w7 ⟨rfl, hB⟩
        go_wp2_with fail
        go_ret
        exact ⟨ret_list hnm.out, hB⟩
      · have hnm : Hid (Plain.labels n = Plain.name n s.data.toList) := by
          show _ = _
          rw [hname.out, Plain.tail, if_pos (List.isEmpty_iff.1 hte)]; simp
        go_wp2_with fail
        refine (string_calls w1 w1.heap.size _ w4 hH4 (Plain.labels_ne n)).mono ?_
        rintro e w7 ⟨rfl, hB⟩
        go_wp2_with fail
        go_ret
        exact ⟨ret_list hnm.out, hB⟩
    · have hfin : Hid ((l ++ [Plain.digit c] ++ [46]) ++ Plain.labels (c / 10) = Plain.labels n) := by
        show _ = _
        rw [← hl.out, Plain.labels_big (n := c) (by omega)]; simp
      have hq : ((c : Int) / 10 == 0) = false := by rw [beq_eq_false_iff_ne]; omega
      go_wp2_with fail
      refine (writeByte_calls w1 w1.heap.size l (Plain.digit c) _ wr hH (by rw [Plain.digit_toNat]; omega) (by omega)).mono ?_
      rintro e w3 ⟨rfl, hH3⟩
      go_wp2_with fail
      refine (writeByte_calls w1 w1.heap.size (l ++ [Plain.digit c]) 46 _ w3 hH3 rfl (by simp; omega)).mono ?_
      rintro e w4 ⟨rfl, hH4⟩
      go_wp2_with fail
      go_roundw
      case rel => exact ⟨c / 10, l ++ [Plain.digit c] ++ [46], by omega, by go_num, hH4, hfin⟩
      case measure => simp [intOf]; omega

/-- The same, the result under a name of its own. -/
theorem named_calls (n : Nat) (s : ByteArray) (nm : List UInt8) (hnm : Hid (nm = Plain.name n s.data.toList)) (hn : n ≤ 18446744073709551615) (hs : s.size ≤ 2000000) (w : World) :
    Calls Try.prog 14 #[.int .u64 n, .string s] w fun e w' => e = .returned (.string ⟨nm.toArray⟩) ∧ Below w.heap.size w w' := by
  rw [hnm.out]
  exact name_calls n s hn hs w

/-- The same at a number that is a term over Int. -/
theorem named_int (x : Int) (n : Nat) (hx : x = (n : Int)) (s : ByteArray) (nm : List UInt8) (hnm : Hid (nm = Plain.name n s.data.toList)) (hn : n ≤ 18446744073709551615) (hs : s.size ≤ 2000000) (w : World) :
    Calls Try.prog 14 #[.int .u64 x, .string s] w fun e w' => e = .returned (.string ⟨nm.toArray⟩) ∧ Below w.heap.size w w' := by
  subst hx
  exact named_calls n s nm hnm hn hs w

/-- A byte of a string that was made of a list. -/
theorem at_mk (l : List UInt8) (k : Nat) (h : k < (⟨l.toArray⟩ : ByteArray).size) : l[k]? = some (⟨l.toArray⟩ : ByteArray)[k] := by
  have hk : k < l.length := by simpa using (show k < l.toArray.size from h)
  rw [List.getElem?_eq_getElem hk]
  rfl

theorem name_bounds (n : Nat) (s : ByteArray) (nm : List UInt8) (hnm : nm = Plain.name n s.data.toList) (hn : n ≤ 18446744073709551615) (hs : s.size ≤ 1048576) : 0 < nm.length ∧ nm.length ≤ 1048617 ∧ ∃ l, nm = l ++ [46] := by
  obtain ⟨l, hl⟩ := Plain.name_last n s.data.toList
  have h1 := Plain.name_length n s.data.toList
  have h2 := Plain.numLen_20 hn
  have h3 : s.data.toList.length = s.size := by simp
  rw [← hnm] at hl h1
  exact ⟨by rw [hl]; simp, by omega, l, hl⟩
end Go.Proofs.Qxb6601016a
