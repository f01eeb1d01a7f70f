/-
  The small callees of 'FnUnquoteReadsFirstTokenThenRest', each by its contract.
-/
import Derived.Test.Qxb6605290aWrite
import Derived.Test.Qxb6605290aTokPlain
import Derived.LoopN
namespace Go.Proofs.Qxb6605290a
open Go.RowKit Plain

theorem bytes3_any (q : Int) (s r : ByteArray) (w : World) (hs : s.size ≤ maxLen) (hr : r.size ≤ maxLen) :
    Calls Try.prog 15 #[.int .u8 q, .string s, .string r] w fun e w' => e = .returned (.bool (decide (s.size + r.size ≤ 1048576))) ∧ w' = w := by
  unfold maxLen at hs hr
  by_cases h : s.size ≤ 1048576
  · have h' : (s.size : Int) ≤ 1048576 := by omega
    by_cases g : r.size ≤ 1048576
    · have g' : (r.size : Int) ≤ 1048576 := by omega
      by_cases k : s.size + r.size ≤ 1048576
      · have k' : (s.size : Int) + (r.size : Int) ≤ 1048576 := by omega
        go_enter Try.func15, Try.ntmps15
        go_wp2
        go_ret
        exact ⟨by simp [k], rfl⟩
      · have k' : (1048576 : Int) < (s.size : Int) + (r.size : Int) := by omega
        go_enter Try.func15, Try.ntmps15
        go_wp2
        go_ret
        exact ⟨by simp [k], rfl⟩
    · have g' : (1048576 : Int) < r.size := by omega
      have k : ¬ s.size + r.size ≤ 1048576 := by omega
      go_enter Try.func15, Try.ntmps15
      go_wp2
      go_ret
      exact ⟨by simp [k], rfl⟩
  · have h' : (1048576 : Int) < s.size := by omega
    have k : ¬ s.size + r.size ≤ 1048576 := by omega
    go_enter Try.func15, Try.ntmps15
    go_wp2
    go_ret
    exact ⟨by simp [k], rfl⟩

theorem two_bytes (s : ByteArray) (h : s.size = 2) : s.data.toList = [s[0], s[1]] := by
  have hl : s.data.toList.length = 2 := by rw [← h]; simp
  match hm : s.data.toList, hl with
  | [a, b], _ =>
    have e0 : s.data.toList[0]? = some s[0] := by simp [h]; rfl
    have e1 : s.data.toList[1]? = some s[1] := by simp [h]; rfl
    rw [hm] at e0 e1
    simp at e0 e1
    rw [e0, e1]
theorem one_byte (s : ByteArray) (h : s.size = 1) : s.data.toList = [s[0]] := by
  have hl : s.data.toList.length = 1 := by rw [← h]; simp
  match hm : s.data.toList, hl with
  | [a], _ =>
    have e0 : s.data.toList[0]? = some s[0] := by simp [h]; rfl
    rw [hm] at e0
    simp at e0
    rw [e0]

theorem isTok_two (q c d : UInt8) : isTok q [c, d] = ((((c.toNat : Int) == (q.toNat : Int)) && ((d.toNat : Int) == (q.toNat : Int))) || ((((q.toNat : Int) != 96) && ((q.toNat : Int) != 92)) && ((c.toNat : Int) == 92))) := by
  have e1 : ((q.toNat : Int) != 96) = decide (q ≠ 96) := by rw [bne, show (96 : Int) = ((96 : UInt8).toNat : Int) from rfl, byte_eq]; simp
  have e2 : ((q.toNat : Int) != 92) = decide (q ≠ 92) := by rw [bne, show (92 : Int) = ((92 : UInt8).toNat : Int) from rfl, byte_eq]; simp
  have e3 : ((c.toNat : Int) == 92) = decide (c = 92) := byte_eq c 92
  rw [e1, e2, e3, byte_eq, byte_eq]
  rfl
theorem isTok_one (q c : UInt8) : isTok q [c] = (((c.toNat : Int) != (q.toNat : Int)) && !(((q.toNat : Int) != 96) && ((c.toNat : Int) == 92))) := by
  have e1 : ((q.toNat : Int) != 96) = decide (q ≠ 96) := by rw [bne, show (96 : Int) = ((96 : UInt8).toNat : Int) from rfl, byte_eq]; simp
  have e3 : ((c.toNat : Int) == 92) = decide (c = 92) := byte_eq c 92
  rw [e1, e3, bne, byte_eq]
  rfl

set_option maxHeartbeats 1000000 in
set_option maxRecDepth 100000 in
theorem isTok_any (q : UInt8) (s : ByteArray) (w : World) (hs : s.size ≤ 1048576) :
    Calls Try.prog 16 #[.int .u8 (q.toNat : Int), .string s] w fun e w' => e = .returned (.bool (isTok q s.data.toList)) ∧ w' = w := by
  by_cases h2 : s.size = 2
  · have H2 : Hid (s.size = 2) := h2
    have g0 : 0 < s.size := by omega
    have g1 : 1 < s.size := by omega
    have hb : ((s.size : Int) == 2) = true := by simp; omega
    have hb1 : ((s.size : Int) == 1) = false := by simp; omega
    clear h2
    go_enter Try.func16, Try.ntmps16
    go_wp2
    all_goals
      go_ret
      refine ⟨?_, rfl⟩
      rw [two_bytes s H2.out, isTok_two]
    all_goals (simp [*] <;> (simp_all <;> omega))
  · by_cases h1 : s.size = 1
    · have H1 : Hid (s.size = 1) := h1
      have g0 : 0 < s.size := by omega
      have hb : ((s.size : Int) == 2) = false := by simp; omega
      have hb1 : ((s.size : Int) == 1) = true := by simp; omega
      clear h2 h1
      go_enter Try.func16, Try.ntmps16
      go_wp2
      all_goals
        go_ret
        refine ⟨?_, rfl⟩
        rw [one_byte s H1.out, isTok_one]
      all_goals (simp [*] <;> (simp_all <;> omega))
    · have hb : ((s.size : Int) == 2) = false := by simp; omega
      have hb1 : ((s.size : Int) == 1) = false := by simp; omega
      have hv : Hid (isTok q s.data.toList = false) := by
        have hl : s.data.toList.length = s.size := by simp
        show isTok q s.data.toList = false
        match hm : s.data.toList, hl with
        | [], _ => rfl
        | [a], hl => exact absurd hl.symm h1
        | [a, b], hl => exact absurd hl.symm h2
        | a :: b :: c :: r, _ => rfl
      clear h2 h1
      go_enter Try.func16, Try.ntmps16
      go_wp2
      all_goals
        go_ret
        exact ⟨by rw [hv.out]; rfl, rfl⟩
end Go.Proofs.Qxb6605290a
