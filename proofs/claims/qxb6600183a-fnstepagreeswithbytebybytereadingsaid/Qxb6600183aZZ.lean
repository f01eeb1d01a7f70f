/-
  'ZZStep', 'modelStepB1', 'modesB1' and the bounds on length, by their contracts.
-/
import Derived.Test.Qxb6600183aScan
namespace Go.Proofs.Qxb6600183a
open Go.RowKit Plain

theorem Sc.new (q l : Bool) (d : Int) (w : World) : Sc w.heap.size q l d (w.alloc (.cells #[.bool q, .bool l, .int .i64 d] 48)) := by
  show (w.heap.push _)[w.heap.size]? = _
  rw [Array.getElem?_push_size]

set_option maxHeartbeats 2000000 in
set_option maxRecDepth 100000 in
theorem zzStep_any (q l : Bool) (d : Int) (s : ByteArray) (i : Nat) (w : World) (hs : s.size ≤ 1048576) (hi : i < s.size) (hd0 : 0 ≤ d) (hd1 : d ≤ 4294967296) :
    ∃ (q' l' : Bool) (d' : Int) (n : Nat), Calls Try.prog 24 #[.bool q, .bool l, .int .i64 d, .string s, .int .i64 (i : Int)] w (fun e w' => e = .returned (.tuple #[.bool q', .bool l', .int .i64 d', .int .i64 (n : Int)]) ∧ Below w.heap.size w w') ∧ Fine s.data.toList q l d i q' l' d' n := by
  obtain ⟨q', l', d', n, hc, hf⟩ := step_any w.heap.size q l d s i (w.alloc (.cells #[.bool q, .bool l, .int .i64 d] 48)) (Sc.new q l d w) hs hi hd0 hd1
  refine ⟨q', l', d', n, ?_, hf⟩
  have HC : Hid (Calls Try.prog 33 #[.pointer (some ⟨w.heap.size, 0, none⟩), .string s, .int .i64 (i : Int)] (w.alloc (.cells #[.bool q, .bool l, .int .i64 d] 48)) (Left w.heap.size q' l' d' n (w.alloc (.cells #[.bool q, .bool l, .int .i64 d] 48)))) := hc
  clear hc hf
  go_enter Try.func24, Try.ntmps24
  go_wp2_with (go_at_call 33; go_must (refine HC.out.mono ?_); rintro e w2 ⟨rfl, hS, hb⟩; have c0 := hS.c0; have c1 := hS.c1; have c2 := hS.c2)
  go_quiet (fail)
  go_wp2
  refine bodyPost_ret (v := .tuple #[.bool q', .bool l', .int .i64 d', .int .i64 (n : Int)]) (by simp [results, Try.results24, go_sem]) rfl ⟨rfl, ?_⟩
  exact below_drewN (((Below.refl _ w).alloc (Nat.le_refl _) _).trans hb) _

set_option maxHeartbeats 1000000 in
theorem bytes23 (q l : Bool) (d : Int) (s : ByteArray) (i : Int) (w : World) :
    Calls Try.prog 23 #[.bool q, .bool l, .int .i64 d, .string s, .int .i64 i] w fun e w' => e = .returned (.bool (decide (s.size ≤ 1048576))) ∧ w' = w := by
  by_cases h : s.size ≤ 1048576
  · rw [decide_eq_true h]
    have h1 : ¬ (1048576 : Int) < (s.size : Int) := by omega
    go_enter Try.func23, Try.ntmps23
    go_wp2
    go_ret
    exact ⟨rfl, rfl⟩
  · rw [decide_eq_false h]
    have h1 : (1048576 : Int) < (s.size : Int) := by omega
    go_enter Try.func23, Try.ntmps23
    go_wp2
    go_ret
    exact ⟨rfl, rfl⟩
set_option maxHeartbeats 1000000 in
theorem bytes26 (q l : Bool) (d : Int) (s : ByteArray) (i : Int) (w : World) :
    Calls Try.prog 26 #[.bool q, .bool l, .int .i64 d, .string s, .int .i64 i] w fun e w' => e = .returned (.bool (decide (s.size ≤ 1048576))) ∧ w' = w := by
  by_cases h : s.size ≤ 1048576
  · rw [decide_eq_true h]
    have h1 : ¬ (1048576 : Int) < (s.size : Int) := by omega
    go_enter Try.func26, Try.ntmps26
    go_wp2
    go_ret
    exact ⟨rfl, rfl⟩
  · rw [decide_eq_false h]
    have h1 : (1048576 : Int) < (s.size : Int) := by omega
    go_enter Try.func26, Try.ntmps26
    go_wp2
    go_ret
    exact ⟨rfl, rfl⟩

set_option maxHeartbeats 1000000 in
theorem modes_any (q l : Bool) (d : Int) (w : World) :
    Calls Try.prog 27 #[.bool q, .bool l, .int .i64 d] w fun e w' => e = .returned (.int .i64 (modes q l d)) ∧ w' = w := by
  obtain ⟨v, hv⟩ : ∃ v, modes q l d = v := ⟨_, rfl⟩
  rw [hv]
  have HV : Hid (modes q l d = v) := hv
  clear hv
  by_cases hd : 0 < d <;> cases q <;> cases l
  all_goals
    go_enter Try.func27, Try.ntmps27
    go_wp2
    go_ret
    exact ⟨by rw [← HV.out]; simp [modes, hd] <;> (split <;> omega), rfl⟩

end Go.Proofs.Qxb6600183a
