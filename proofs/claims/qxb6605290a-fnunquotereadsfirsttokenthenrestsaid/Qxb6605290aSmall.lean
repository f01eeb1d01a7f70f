/-
  The small callees of the two laws over unquote, each by its contract.
-/
import Derived.Test.Qxb6605290aRows
import Derived.Test.Qxb6605290aPlain
import Derived.WalkKit
import Derived.WalkSpells
import Derived.ProofKit
namespace Go.Proofs.Qxb6605290a
open Go.RowKit Plain

/-- A byte as the walk spells it. -/
theorem byte_eq (c d : UInt8) : ((c.toNat : Int) == (d.toNat : Int)) = decide (c = d) := by
  rw [Bool.eq_iff_iff]; simp only [beq_iff_eq, decide_eq_true_eq, ← UInt8.toNat_inj]; omega

theorem byte_lit (c d : UInt8) (n : Int) (h : (d.toNat : Int) = n) : (c = d) = (((c.toNat : Int) == n) = true) := by
  rw [← h, byte_eq, decide_eq_true_eq]

theorem byte_ne {c d : UInt8} (h : ((c.toNat : Int) == (d.toNat : Int)) = false) : c ≠ d := by
  rw [byte_eq] at h; simpa using h
theorem byte_is {c d : UInt8} (h : ((c.toNat : Int) == (d.toNat : Int)) = true) : c = d := by
  rw [byte_eq] at h; simpa using h
theorem esc_yes {q : UInt8} (h : ((q.toNat : Int) != 96) = true) : q ≠ 96 := by
  intro e; subst e; simp at h
theorem esc_no {q : UInt8} (h : ((q.toNat : Int) != 96) = false) : q = 96 := by
  have : ((q.toNat : Int) == ((96 : UInt8).toNat : Int)) = true := by simpa using h
  exact byte_is this

theorem letter_val (c : UInt8) : letterFor c =
    if ((c.toNat : Int) == 0) = true then (48, true) else if ((c.toNat : Int) == 8) = true then (98, true) else if ((c.toNat : Int) == 9) = true then (116, true)
    else if ((c.toNat : Int) == 10) = true then (110, true) else if ((c.toNat : Int) == 13) = true then (114, true) else if ((c.toNat : Int) == 26) = true then (90, true) else (0, false) := by
  unfold letterFor
  simp only [byte_lit c 0 0 rfl, byte_lit c 8 8 rfl, byte_lit c 9 9 rfl, byte_lit c 10 10 rfl, byte_lit c 13 13 rfl, byte_lit c 26 26 rfl]

theorem unesc_val (c : UInt8) : unesc c =
    if ((c.toNat : Int) == 48) = true then (0, false) else if ((c.toNat : Int) == 98) = true then (8, false) else if ((c.toNat : Int) == 110) = true then (10, false)
    else if ((c.toNat : Int) == 114) = true then (13, false) else if ((c.toNat : Int) == 116) = true then (9, false) else if ((c.toNat : Int) == 90) = true then (26, false)
    else if ((c.toNat : Int) == 37) = true then (c, true) else if ((c.toNat : Int) == 95) = true then (c, true) else (c, false) := by
  unfold unesc
  simp only [byte_lit c 48 48 rfl, byte_lit c 98 98 rfl, byte_lit c 110 110 rfl, byte_lit c 114 114 rfl, byte_lit c 116 116 rfl, byte_lit c 90 90 rfl, byte_lit c 37 37 rfl, byte_lit c 95 95 rfl]

set_option maxRecDepth 100000 in
theorem letter_any (c : UInt8) (w : World) :
    Calls Try.prog 30 #[.int .u8 (c.toNat : Int)] w fun e w' => e = .returned (.tuple #[.int .u8 ((letterFor c).1.toNat : Int), .bool (letterFor c).2]) ∧ w' = w := by
  go_enter Try.func30, Try.ntmps30
  go_wp2
  all_goals
    go_ret2
    refine ⟨?_, rfl⟩
    have hv := letter_val c
    simp only [*, if_true] at hv
    rw [hv]
    rfl

set_option maxRecDepth 100000 in
theorem unescape_any (c : UInt8) (w : World) :
    Calls Try.prog 35 #[.int .u8 (c.toNat : Int)] w fun e w' => e = .returned (.tuple #[.int .u8 ((unesc c).1.toNat : Int), .bool (unesc c).2]) ∧ w' = w := by
  go_enter Try.func35, Try.ntmps35
  go_wp2
  all_goals
    go_ret2
    refine ⟨?_, rfl⟩
    have hv := unesc_val c
    simp only [*, if_true] at hv
    rw [hv]
    rfl

theorem isString_any (c : UInt8) (w : World) :
    Calls Try.prog 22 #[.int .u8 (c.toNat : Int)] w fun e w' => e = .returned (.bool ((c.toNat : Int) != 96)) ∧ w' = w := by
  go_enter Try.func22, Try.ntmps22
  go_wp2
  go_ret
  exact ⟨rfl, rfl⟩

theorem bytes1_any (q : Int) (s : ByteArray) (w : World) (hs : s.size ≤ maxLen) :
    Calls Try.prog 19 #[.int .u8 q, .string s] w fun e w' => e = .returned (.bool (decide (s.size ≤ 1048576))) ∧ w' = w := by
  unfold maxLen at hs
  by_cases h : s.size ≤ 1048576
  · have h' : (s.size : Int) ≤ 1048576 := by omega
    go_enter Try.func19, Try.ntmps19
    go_wp2
    go_ret
    exact ⟨by simp [h], rfl⟩
  · have h' : (1048576 : Int) < s.size := by omega
    go_enter Try.func19, Try.ntmps19
    go_wp2
    go_ret
    exact ⟨by simp [h], rfl⟩
end Go.Proofs.Qxb6605290a
