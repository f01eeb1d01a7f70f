/-
  The walk of 'FnStepAgreesWithByteByByteReading'.
-/
import Derived.Test.Qxb6600183aModel
import Derived.Below
namespace Go.Proofs.Qxb6600183a.fnStepAgreesWithByteByByteReading
open Go.RowKit Plain

/-- What the outer loop keeps: the two readings stand at one place in one state. -/
def Keep (s : ByteArray) (w : World) (g : Nat) (v11 v12 v13 v14 v15 v16 v17 v18 v19 : Value) (wx : World) : Prop :=
  ∃ (q l : Bool) (d : Int) (j k : Nat), v11 = .bool q ∧ v12 = .bool l ∧ v13 = .int .i64 d ∧ v14 = .int .i64 (j : Int) ∧ v15 = .bool q ∧ v16 = .bool l ∧ v17 = .int .i64 d ∧ v18 = .int .i64 (j : Int) ∧ v19 = .int .i64 (k : Int) ∧
    j + g = s.size ∧ k ≤ j ∧ 0 ≤ d ∧ d ≤ 65536 + (j : Int) ∧ Below w.heap.size w wx

/-- What the inner loop keeps: the model is on its way to where the step stands. -/
def Way (s : ByteArray) (q l : Bool) (d : Int) (j : Nat) (w : World) (g : Nat) (v11 v12 v13 v14 : Value) (wx : World) : Prop :=
  ∃ (q1 l1 : Bool) (d1 : Int) (m : Nat), v11 = .bool q1 ∧ v12 = .bool l1 ∧ v13 = .int .i64 d1 ∧ v14 = .int .i64 (m : Int) ∧ Hid (Plain.Reach s.data.toList g (q1, l1, d1, m) (q, l, d, j)) ∧ 0 ≤ d1 ∧ d1 ≤ 65536 + (m : Int) ∧ wx = w

set_option maxHeartbeats 8000000 in
set_option maxRecDepth 1000000 in
theorem walk (a0 : Bool) (a1 : Bool) (a2 : Int) (a3 : ByteArray) (a4 : Int) (w : World) :
    Calls Try.prog 7 #[.bool a0, .bool a1, .int .i64 a2, .string a3, .int .i64 a4] w fun e w' => e = .returned (.bool true) ∧ Below w.heap.size w w' := by
  obtain ⟨v, hv⟩ : ∃ v, decide (a3.size ≤ 1048576) = v := ⟨_, rfl⟩
  have HB : Hid (∀ w, Calls Try.prog 23 #[.bool a0, .bool a1, .int .i64 a2, .string a3, .int .i64 a4] w fun e w' => e = .returned (.bool v) ∧ w' = w) := fun w => by rw [← hv]; exact bytes23 a0 a1 a2 a3 a4 w
  cases v
  · clear hv
    go_enter Try.func7, Try.ntmps7
    go_wp2_with (go_at_call 23; go_must (refine (HB.out _).mono ?_); rintro e w2 ⟨rfl, rfl⟩)
    go_ret
    exact ⟨rfl, Below.refl _ _⟩
  have hs : a3.size ≤ 1048576 := of_decide_eq_true hv
  have hs1 : ¬ (1048576 : Int) < (a3.size : Int) := by omega
  clear hv
  by_cases h0 : a2 < 0
  · go_enter Try.func7, Try.ntmps7
    go_wp2_with (go_at_call 23; go_must (refine (HB.out _).mono ?_); rintro e w2 ⟨rfl, rfl⟩)
    go_ret
    exact ⟨rfl, Below.refl _ _⟩
  by_cases h1 : 65536 < a2
  · go_enter Try.func7, Try.ntmps7
    go_wp2_with (go_at_call 23; go_must (refine (HB.out _).mono ?_); rintro e w2 ⟨rfl, rfl⟩)
    go_ret
    exact ⟨rfl, Below.refl _ _⟩
  by_cases h2 : a4 < 0
  · go_enter Try.func7, Try.ntmps7
    go_wp2_with (go_at_call 23; go_must (refine (HB.out _).mono ?_); rintro e w2 ⟨rfl, rfl⟩)
    go_ret
    exact ⟨rfl, Below.refl _ _⟩
  by_cases h3 : (a3.size : Int) < a4
  · go_enter Try.func7, Try.ntmps7
    go_wp2_with (go_at_call 23; go_must (refine (HB.out _).mono ?_); rintro e w2 ⟨rfl, rfl⟩)
    go_ret
    exact ⟨rfl, Below.refl _ _⟩
  obtain ⟨i, rfl⟩ : ∃ i : Nat, a4 = (i : Int) := ⟨a4.toNat, by omega⟩
  have hi : i ≤ a3.size := by omega
  go_enter Try.func7, Try.ntmps7
  go_wp2_with (go_at_call 23; go_must (refine (HB.out _).mono ?_); rintro e w2 ⟨rfl, rfl⟩)
  have hz : decide (a3.size < i) = false := decide_eq_false (by omega)
  rw [hz, Bool.or_false]
  clear hz
  go_loopg [11, 12, 13, 14, 15, 16, 17, 18, 19] (a3.size - i) (Keep a3 w2)
  case atStart => exact ⟨a0, a1, a2, i, 0, rfl, rfl, rfl, rfl, rfl, rfl, rfl, rfl, rfl, by omega, by omega, by omega, by omega, Below.refl _ _⟩
  case round =>
    obtain ⟨q, l, d, j, k, rfl, rfl, rfl, rfl, rfl, rfl, rfl, rfl, rfl, hj, hkj, hd0, hd1, hbx⟩ := hrel
    clear HB h0 h1 h2 h3 hi
    have HBx : Hid (Below w2.heap.size w2 wr) := hbx
    clear hbx
    by_cases hjs : j < a3.size
    · obtain ⟨q', l', d', n, hc, hf⟩ := zzStep_any q l d a3 j wr hs hjs hd0 (by omega)
      have hn1 := hf.pos
      have hn2 := hf.inside
      rw [len_size] at hn2
      obtain ⟨r, hr⟩ := hf.reach
      have HZ : Hid (Calls Try.prog 24 #[.bool q, .bool l, .int .i64 d, .string a3, .int .i64 (j : Int)] wr (fun e w' => e = .returned (.tuple #[.bool q', .bool l', .int .i64 d', .int .i64 (n : Int)]) ∧ Below wr.heap.size wr w')) := hc
      have HR : Hid (Plain.Reach a3.data.toList r (q, l, d, j) (q', l', d', j + n)) := hr
      clear hc hf hr
      have t1 : (k : Int) < (a3.size : Int) := by omega
      have t2 : (j : Int) < (a3.size : Int) := by omega
      have t3 : ¬ (n : Int) < 1 := by omega
      have t4 : ¬ (a3.size : Int) - (j : Int) < (n : Int) := by omega
      go_wp2_with (go_at_call 24; go_must (refine HZ.out.mono ?_); rintro e w3 ⟨rfl, hb3⟩)
      go_loopg [11, 12, 13, 14] r (Way a3 q' l' d' (j + n) w3)
      case atStart => exact ⟨q, l, d, j, rfl, rfl, rfl, rfl, HR.out, hd0, hd1, rfl⟩
      case round =>
        obtain ⟨q1, l1, d1, m, rfl, rfl, rfl, rfl, hR, hm0, hm1, rfl⟩ := hrel
        clear HR HZ
        have hle := hR.out.le
        by_cases hmj : m < j + n
        · cases gk with
          | zero =>
            have h5 := congrArg (fun x => x.2.2.2) (show (q1, l1, d1, m) = (q', l', d', j + n) from hR.out)
            simp only at h5
            omega
          | succ g =>
            obtain ⟨⟨q2, l2, d2, m2⟩, hr⟩ : ∃ x, mdl a3.data.toList q1 l1 d1 m = x := ⟨_, rfl⟩
            have hR2 : Plain.Reach a3.data.toList g (mdl a3.data.toList q1 l1 d1 m) (q', l', d', j + n) := hR.out
            have hdp := mdl_depth a3.data.toList q1 l1 d1 m hm0
            have hps := mdl_pos a3.data.toList q1 l1 d1 m
            have HM0 := fun w => model_any q1 l1 d1 a3 m w hs (by omega) hm0 (by simp only at hle; omega)
            rw [hr] at hR2 hdp hps HM0
            have HM : Hid (∀ w, Calls Try.prog 25 #[.bool q1, .bool l1, .int .i64 d1, .string a3, .int .i64 (m : Int)] w fun e w' => e = .returned (.tuple #[.bool q2, .bool l2, .int .i64 d2, .int .i64 (m2 : Int)]) ∧ w' = w) := HM0
            have HR2 : Hid (Plain.Reach a3.data.toList g (q2, l2, d2, m2) (q', l', d', j + n)) := hR2
            simp only at hdp hps
            have hmi : (m : Int) < (j : Int) + (n : Int) := by omega
            clear hR2 HM0 hr hR hle
            go_wp2_with (go_at_call 25; go_must (refine (HM.out _).mono ?_); rintro e w5 ⟨rfl, rfl⟩)
            go_roundg g
            case measure => omega
            case rel => exact ⟨q2, l2, d2, m2, rfl, rfl, rfl, rfl, HR2.out, by omega, by omega, rfl⟩
        · obtain rfl : gk = 0 := by simp only at hle; omega
          have h5 : (q1, l1, d1, m) = (q', l', d', j + n) := hR.out
          injection h5 with e1 h5
          injection h5 with e2 h5
          injection h5 with e3 e4
          subst e1 e2 e3 e4
          have hmi : ¬ (((j + n : Nat) : Int) < (j : Int) + (n : Int)) := by omega
          clear hR hle
          go_wp2
          go_roundg (a3.size - (j + n))
          case measure => omega
          case rel => exact ⟨q1, l1, d1, j + n, k + 1, rfl, rfl, rfl, rfl, rfl, rfl, rfl, rfl, rfl, by omega, by omega, by omega, by omega, HBx.out.trans (hb3.mono HBx.out.size)⟩
    · have hj2 : (j : Int) = (a3.size : Int) := by omega
      by_cases hk : (k : Int) < (a3.size : Int)
      · go_wp2
        go_ret
        exact ⟨by simp, HBx.out⟩
      · go_wp2
        go_ret
        exact ⟨by simp, HBx.out⟩

end Go.Proofs.Qxb6600183a.fnStepAgreesWithByteByByteReading
