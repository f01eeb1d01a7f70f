/-
  The walk of 'FnStepMovesForwardAndKeepsOneModeAtATime'.
-/
import Derived.Test.Qxb6600183aZZ
import Derived.Below
namespace Go.Proofs.Qxb6600183a.fnStepMovesForwardAndKeepsOneModeAtATime
open Go.RowKit Plain

set_option maxHeartbeats 4000000 in
set_option maxRecDepth 100000 in
/-- Inside the bounds, the depth as it was. -/
theorem same (q l : Bool) (d : Int) (s : ByteArray) (i : Nat) (w : World) (hs : s.size ≤ 1048576) (hi : i < s.size) (hd0 : 0 ≤ d) (hd1 : d ≤ 65536)
    (q' l' : Bool) (d' : Int) (n : Nat) (m m' : Int) (hm : modes q l d = m) (hm' : modes q' l' d' = m') (hmm : m ≤ 1 → m' ≤ 1) (hn1 : 1 ≤ n) (hn2 : i + n ≤ s.size) (hd : d' = d)
    (HZ : Hid (Calls Try.prog 24 #[.bool q, .bool l, .int .i64 d, .string s, .int .i64 (i : Int)] w (fun e w' => e = .returned (.tuple #[.bool q', .bool l', .int .i64 d', .int .i64 (n : Int)]) ∧ Below w.heap.size w w'))) :
    Calls Try.prog 8 #[.bool q, .bool l, .int .i64 d, .string s, .int .i64 (i : Int)] w fun e w' => e = .returned (.bool true) ∧ Below w.heap.size w w' := by
  have HB : Hid (∀ w, Calls Try.prog 26 #[.bool q, .bool l, .int .i64 d, .string s, .int .i64 (i : Int)] w fun e w' => e = .returned (.bool true) ∧ w' = w) := fun w => by
    have := bytes26 q l d s i w
    rw [decide_eq_true hs] at this
    exact this
  have HM : Hid (∀ w, Calls Try.prog 27 #[.bool q, .bool l, .int .i64 d] w fun e w' => e = .returned (.int .i64 m) ∧ w' = w) := fun w => by rw [← hm]; exact modes_any q l d w
  have HM' : Hid (∀ w, Calls Try.prog 27 #[.bool q', .bool l', .int .i64 d'] w fun e w' => e = .returned (.int .i64 m') ∧ w' = w) := fun w => by rw [← hm']; exact modes_any q' l' d' w
  subst hd
  clear hm hm'
  have h0 : ¬ d' < 0 := by omega
  have h1 : ¬ 65536 < d' := by omega
  have h2 : ¬ (i : Int) < 0 := by omega
  have h3 : ¬ (s.size : Int) ≤ (i : Int) := by omega
  have h4 : ¬ (n : Int) < 1 := by omega
  have h5 : ¬ (s.size : Int) - (i : Int) < (n : Int) := by omega
  by_cases hx : m ≤ 1
  · have hx' : ¬ 1 < m' := by have := hmm hx; omega
    clear hmm
    go_enter Try.func8, Try.ntmps8
    go_wp2_with (first
      | (go_at_call 26; go_must (refine (HB.out _).mono ?_); rintro e w2 ⟨rfl, rfl⟩)
      | (go_at_call 24; go_must (refine HZ.out.mono ?_); rintro e w3 ⟨rfl, hb⟩)
      | (go_at_call_of 27 (Value.bool q); go_must (refine (HM.out _).mono ?_); rintro e w4 ⟨rfl, rfl⟩)
      | (go_at_call 27; go_must (refine (HM'.out _).mono ?_); rintro e w5 ⟨rfl, rfl⟩))
    go_ret
    exact ⟨rfl, hb⟩
  · clear hmm
    go_enter Try.func8, Try.ntmps8
    go_wp2_with (first
      | (go_at_call 26; go_must (refine (HB.out _).mono ?_); rintro e w2 ⟨rfl, rfl⟩)
      | (go_at_call 24; go_must (refine HZ.out.mono ?_); rintro e w3 ⟨rfl, hb⟩)
      | (go_at_call 27; go_must (refine (HM.out _).mono ?_); rintro e w4 ⟨rfl, rfl⟩))
    go_ret
    exact ⟨rfl, hb⟩

set_option maxHeartbeats 4000000 in
set_option maxRecDepth 100000 in
/-- Inside the bounds, the depth one more. -/
theorem up (q l : Bool) (d : Int) (s : ByteArray) (i : Nat) (w : World) (hs : s.size ≤ 1048576) (_hi : i < s.size) (hd0 : 0 ≤ d) (hd1 : d ≤ 65536)
    (q' l' : Bool) (d' : Int) (m m' : Int) (hm : modes q l d = m) (hm' : modes q' l' d' = m') (hmm : m ≤ 1 → m' ≤ 1) (hn2 : i + 2 ≤ s.size) (hd : d' = d + 1) (p : ((s.extract i (i + 2)).toList == [47, 42]) = true)
    (HZ : Hid (Calls Try.prog 24 #[.bool q, .bool l, .int .i64 d, .string s, .int .i64 (i : Int)] w (fun e w' => e = .returned (.tuple #[.bool q', .bool l', .int .i64 d', .int .i64 2]) ∧ Below w.heap.size w w'))) :
    Calls Try.prog 8 #[.bool q, .bool l, .int .i64 d, .string s, .int .i64 (i : Int)] w fun e w' => e = .returned (.bool true) ∧ Below w.heap.size w w' := by
  have HB : Hid (∀ w, Calls Try.prog 26 #[.bool q, .bool l, .int .i64 d, .string s, .int .i64 (i : Int)] w fun e w' => e = .returned (.bool true) ∧ w' = w) := fun w => by
    have := bytes26 q l d s i w
    rw [decide_eq_true hs] at this
    exact this
  have HM : Hid (∀ w, Calls Try.prog 27 #[.bool q, .bool l, .int .i64 d] w fun e w' => e = .returned (.int .i64 m) ∧ w' = w) := fun w => by rw [← hm]; exact modes_any q l d w
  have HM' : Hid (∀ w, Calls Try.prog 27 #[.bool q', .bool l', .int .i64 d'] w fun e w' => e = .returned (.int .i64 m') ∧ w' = w) := fun w => by rw [← hm']; exact modes_any q' l' d' w
  subst hd
  have k1 : ¬ d + 1 < 0 := by omega
  have k2 : ((d + 1 : Int) == d) = false := beq_eq_false_iff_ne.2 (by omega)
  clear hm hm'
  have h0 : ¬ d < 0 := by omega
  have h1 : ¬ 65536 < d := by omega
  have h2 : ¬ (i : Int) < 0 := by omega
  have h3 : ¬ (s.size : Int) ≤ (i : Int) := by omega
  have h5 : ¬ (s.size : Int) - (i : Int) < 2 := by omega
  by_cases hx : m ≤ 1
  · have hx' : ¬ 1 < m' := by have := hmm hx; omega
    clear hmm
    go_enter Try.func8, Try.ntmps8
    go_wp2_with (first
      | (go_at_call 26; go_must (refine (HB.out _).mono ?_); rintro e w2 ⟨rfl, rfl⟩)
      | (go_at_call 24; go_must (refine HZ.out.mono ?_); rintro e w3 ⟨rfl, hb⟩)
      | (go_at_call_of 27 (Value.bool q); go_must (refine (HM.out _).mono ?_); rintro e w4 ⟨rfl, rfl⟩)
      | (go_at_call 27; go_must (refine (HM'.out _).mono ?_); rintro e w5 ⟨rfl, rfl⟩))
    go_ret
    exact ⟨rfl, hb⟩
  · clear hmm
    go_enter Try.func8, Try.ntmps8
    go_wp2_with (first
      | (go_at_call 26; go_must (refine (HB.out _).mono ?_); rintro e w2 ⟨rfl, rfl⟩)
      | (go_at_call 24; go_must (refine HZ.out.mono ?_); rintro e w3 ⟨rfl, hb⟩)
      | (go_at_call 27; go_must (refine (HM.out _).mono ?_); rintro e w4 ⟨rfl, rfl⟩))
    go_ret
    exact ⟨rfl, hb⟩

set_option maxHeartbeats 4000000 in
set_option maxRecDepth 100000 in
/-- Inside the bounds, the depth one less. -/
theorem down (q l : Bool) (d : Int) (s : ByteArray) (i : Nat) (w : World) (hs : s.size ≤ 1048576) (_hi : i < s.size) (hd0 : 0 ≤ d) (hd1 : d ≤ 65536)
    (q' l' : Bool) (d' : Int) (m m' : Int) (hm : modes q l d = m) (hm' : modes q' l' d' = m') (hmm : m ≤ 1 → m' ≤ 1) (hn2 : i + 2 ≤ s.size) (hd : d' = d - 1) (hdp : 0 < d) (p : ((s.extract i (i + 2)).toList == [42, 47]) = true)
    (HZ : Hid (Calls Try.prog 24 #[.bool q, .bool l, .int .i64 d, .string s, .int .i64 (i : Int)] w (fun e w' => e = .returned (.tuple #[.bool q', .bool l', .int .i64 d', .int .i64 2]) ∧ Below w.heap.size w w'))) :
    Calls Try.prog 8 #[.bool q, .bool l, .int .i64 d, .string s, .int .i64 (i : Int)] w fun e w' => e = .returned (.bool true) ∧ Below w.heap.size w w' := by
  have HB : Hid (∀ w, Calls Try.prog 26 #[.bool q, .bool l, .int .i64 d, .string s, .int .i64 (i : Int)] w fun e w' => e = .returned (.bool true) ∧ w' = w) := fun w => by
    have := bytes26 q l d s i w
    rw [decide_eq_true hs] at this
    exact this
  have HM : Hid (∀ w, Calls Try.prog 27 #[.bool q, .bool l, .int .i64 d] w fun e w' => e = .returned (.int .i64 m) ∧ w' = w) := fun w => by rw [← hm]; exact modes_any q l d w
  have HM' : Hid (∀ w, Calls Try.prog 27 #[.bool q', .bool l', .int .i64 d'] w fun e w' => e = .returned (.int .i64 m') ∧ w' = w) := fun w => by rw [← hm']; exact modes_any q' l' d' w
  subst hd
  have k1 : ¬ d - 1 < 0 := by omega
  have k2 : ((d - 1 : Int) == d) = false := beq_eq_false_iff_ne.2 (by omega)
  have k3 : ((d - 1 : Int) == d + 1) = false := beq_eq_false_iff_ne.2 (by omega)
  clear hm hm'
  have h0 : ¬ d < 0 := by omega
  have h1 : ¬ 65536 < d := by omega
  have h2 : ¬ (i : Int) < 0 := by omega
  have h3 : ¬ (s.size : Int) ≤ (i : Int) := by omega
  have h5 : ¬ (s.size : Int) - (i : Int) < 2 := by omega
  by_cases hx : m ≤ 1
  · have hx' : ¬ 1 < m' := by have := hmm hx; omega
    clear hmm
    go_enter Try.func8, Try.ntmps8
    go_wp2_with (first
      | (go_at_call 26; go_must (refine (HB.out _).mono ?_); rintro e w2 ⟨rfl, rfl⟩)
      | (go_at_call 24; go_must (refine HZ.out.mono ?_); rintro e w3 ⟨rfl, hb⟩)
      | (go_at_call_of 27 (Value.bool q); go_must (refine (HM.out _).mono ?_); rintro e w4 ⟨rfl, rfl⟩)
      | (go_at_call 27; go_must (refine (HM'.out _).mono ?_); rintro e w5 ⟨rfl, rfl⟩))
    go_ret
    exact ⟨rfl, hb⟩
  · clear hmm
    go_enter Try.func8, Try.ntmps8
    go_wp2_with (first
      | (go_at_call 26; go_must (refine (HB.out _).mono ?_); rintro e w2 ⟨rfl, rfl⟩)
      | (go_at_call 24; go_must (refine HZ.out.mono ?_); rintro e w3 ⟨rfl, hb⟩)
      | (go_at_call 27; go_must (refine (HM.out _).mono ?_); rintro e w4 ⟨rfl, rfl⟩))
    go_ret
    exact ⟨rfl, hb⟩

set_option maxHeartbeats 2000000 in
set_option maxRecDepth 100000 in
theorem walk (a0 : Bool) (a1 : Bool) (a2 : Int) (a3 : ByteArray) (a4 : Int) (w : World) :
    Calls Try.prog 8 #[.bool a0, .bool a1, .int .i64 a2, .string a3, .int .i64 a4] w fun e w' => e = .returned (.bool true) ∧ Below w.heap.size w w' := by
  obtain ⟨v, hv⟩ : ∃ v, decide (a3.size ≤ 1048576) = v := ⟨_, rfl⟩
  have HB : Hid (∀ w, Calls Try.prog 26 #[.bool a0, .bool a1, .int .i64 a2, .string a3, .int .i64 a4] w fun e w' => e = .returned (.bool v) ∧ w' = w) := fun w => by rw [← hv]; exact bytes26 a0 a1 a2 a3 a4 w
  cases v
  · clear hv
    go_enter Try.func8, Try.ntmps8
    go_wp2_with (go_at_call 26; go_must (refine (HB.out _).mono ?_); rintro e w2 ⟨rfl, rfl⟩)
    go_ret
    exact ⟨rfl, Below.refl _ _⟩
  have hs : a3.size ≤ 1048576 := of_decide_eq_true hv
  have hs1 : ¬ (1048576 : Int) < (a3.size : Int) := by omega
  clear hv
  by_cases h0 : a2 < 0
  · go_enter Try.func8, Try.ntmps8
    go_wp2_with (go_at_call 26; go_must (refine (HB.out _).mono ?_); rintro e w2 ⟨rfl, rfl⟩)
    go_ret
    exact ⟨rfl, Below.refl _ _⟩
  by_cases h1 : 65536 < a2
  · go_enter Try.func8, Try.ntmps8
    go_wp2_with (go_at_call 26; go_must (refine (HB.out _).mono ?_); rintro e w2 ⟨rfl, rfl⟩)
    go_ret
    exact ⟨rfl, Below.refl _ _⟩
  by_cases h2 : a4 < 0
  · go_enter Try.func8, Try.ntmps8
    go_wp2_with (go_at_call 26; go_must (refine (HB.out _).mono ?_); rintro e w2 ⟨rfl, rfl⟩)
    go_ret
    exact ⟨rfl, Below.refl _ _⟩
  by_cases h3 : (a3.size : Int) ≤ a4
  · go_enter Try.func8, Try.ntmps8
    go_wp2_with (go_at_call 26; go_must (refine (HB.out _).mono ?_); rintro e w2 ⟨rfl, rfl⟩)
    go_ret
    exact ⟨rfl, Below.refl _ _⟩
  clear HB
  obtain ⟨i, rfl⟩ : ∃ i : Nat, a4 = (i : Int) := ⟨a4.toNat, by omega⟩
  have hi : i < a3.size := by omega
  obtain ⟨q', l', d', n, hc, hf⟩ := zzStep_any a0 a1 a2 a3 i w hs hi (by omega) (by omega)
  have hlen := len_size a3
  have hin := hf.inside
  rw [hlen] at hin
  rcases hf.depth with hd | ⟨rfl, hd, hp⟩ | ⟨rfl, hd, hdp, hp⟩
  · exact same a0 a1 a2 a3 i w hs hi (by omega) (by omega) q' l' d' n _ _ rfl rfl hf.one hf.pos hin hd hc
  · exact up a0 a1 a2 a3 i w hs hi (by omega) (by omega) q' l' d' _ _ rfl rfl hf.one hin hd (by rw [pair_eq a3 i (i + 2) (by omega)]; exact hp) hc
  · exact down a0 a1 a2 a3 i w hs hi (by omega) (by omega) q' l' d' _ _ rfl rfl hf.one hin hd hdp (by rw [pair_eq a3 i (i + 2) (by omega)]; exact hp) hc

end Go.Proofs.Qxb6600183a.fnStepMovesForwardAndKeepsOneModeAtATime
