/-
  'zzWellFormedRun' of a run between two quotes, by its contract.
-/
import Derived.Test.Qxb6605290aRun
namespace Go.Proofs.Qxb6605290a
open Go.RowKit Plain

/-- The run's body from place k on. -/
def bodyAt (run : ByteArray) (k : Nat) : List UInt8 := (run.data.toList.take (run.size - 1)).drop k

theorem body_one {run : ByteArray} {q : UInt8} {b : List UInt8} (hr : run.data.toList = q :: b ++ [q]) (hz : run.size = b.length + 2) : bodyAt run 1 = b := by
  unfold bodyAt
  rw [hr, hz]
  simp

theorem body_cons (run : ByteArray) (k : Nat) (h : k < run.size - 1) : bodyAt run k = run[k]'(by omega) :: bodyAt run (k + 1) := by
  have hl : run.data.toList.length = run.size := by simp
  unfold bodyAt
  rw [List.drop_eq_getElem_cons (by rw [List.length_take]; omega)]
  congr 1
  rw [List.getElem_take]
  rfl

theorem body_end (run : ByteArray) (k : Nat) (h : run.size - 1 ≤ k) : bodyAt run k = [] := by
  unfold bodyAt
  apply List.drop_eq_nil_of_le
  have hl : run.data.toList.length = run.size := by simp
  rw [List.length_take]; omega

theorem well_q1 {q : UInt8} {run : ByteArray} {k : Nat} (hk : k < run.size - 1) (h : ((run[k]'(by omega)).toNat : Int) == (q.toNat : Int)) (h1 : run.size - 1 ≤ k + 1) : safe q (bodyAt run k) = false := by
  rw [body_cons run k hk, body_end run (k + 1) h1]
  simp [safe, byte_is h]
theorem well_q2 {q : UInt8} {run : ByteArray} {k : Nat} (hk : k + 1 < run.size - 1) (h : (((run[k]'(by omega)).toNat : Int) == (q.toNat : Int)) = true) (h1 : (((run[k + 1]'(by omega)).toNat : Int) == (q.toNat : Int)) = false) : safe q (bodyAt run k) = false := by
  rw [body_cons run k (by omega), body_cons run (k + 1) hk, safe, if_pos (byte_is h)]
  simp [byte_ne h1]
theorem well_q3 {q : UInt8} {run : ByteArray} {k : Nat} (hk : k + 1 < run.size - 1) (h : (((run[k]'(by omega)).toNat : Int) == (q.toNat : Int)) = true) (h1 : (((run[k + 1]'(by omega)).toNat : Int) == (q.toNat : Int)) = true) : safe q (bodyAt run k) = safe q (bodyAt run (k + 2)) := by
  rw [body_cons run k (by omega), body_cons run (k + 1) hk, safe, if_pos (byte_is h)]
  simp [byte_is h1]
theorem well_e1 {q : UInt8} {run : ByteArray} {k : Nat} (hk : k < run.size - 1) (hc : (((run[k]'(by omega)).toNat : Int) == 92) = true) (he : ((q.toNat : Int) != 96) = true) (h1 : run.size - 1 ≤ k + 1) : safe q (bodyAt run k) = false := by
  rw [body_cons run k hk, body_end run (k + 1) h1]
  simp [safe, byte_is (d := 92) hc, esc_yes he]
theorem well_e2 {q : UInt8} {run : ByteArray} {k : Nat} (hk : k + 1 < run.size - 1) (h : (((run[k]'(by omega)).toNat : Int) == (q.toNat : Int)) = false) (hc : (((run[k]'(by omega)).toNat : Int) == 92) = true) (he : ((q.toNat : Int) != 96) = true) : safe q (bodyAt run k) = safe q (bodyAt run (k + 2)) := by
  rw [body_cons run k (by omega), body_cons run (k + 1) hk, safe, if_neg (byte_ne h), if_pos ⟨byte_is (d := 92) hc, esc_yes he⟩]
theorem well_p {q : UInt8} {run : ByteArray} {k : Nat} (hk : k < run.size - 1) (h : (((run[k]'(by omega)).toNat : Int) == (q.toNat : Int)) = false) (hc : (((run[k]'(by omega)).toNat : Int) == 92) = false ∨ ((q.toNat : Int) != 96) = false) : safe q (bodyAt run k) = safe q (bodyAt run (k + 1)) := by
  rw [body_cons run k hk]
  exact safe_plain q _ _ (byte_ne h) (fun x => hc.elim (fun y => byte_ne (d := 92) y x.1) (fun y => x.2 (esc_no y)))

set_option maxHeartbeats 1000000 in
set_option maxRecDepth 100000 in
theorem well_any (run : ByteArray) (q : UInt8) (b : List UInt8) (w : World) (hr : Hid (run.data.toList = q :: b ++ [q])) (hz : run.size ≤ 4194304) :
    Calls Try.prog 12 #[.string run] w fun e w' => e = .returned (.bool (safe q b)) ∧ w' = w := by
  have hrl : run.size = b.length + 2 := by
    have := congrArg List.length hr.out
    simp at this
    have h2 : run.data.toList.length = run.size := by simp
    simp at h2
    omega
  have hb1 : Hid (safe q (bodyAt run 1) = safe q b) := by show safe q (bodyAt run 1) = safe q b; rw [body_one hr.out hrl]
  have g0 : 0 < run.size := by omega
  have g2 : (2 : Int) ≤ (run.size : Int) := by omega
  have gl : run.size - 1 < run.size := by omega
  have hq : run[0] = q := by
    have h3 : run.data.toList[0]? = some run[0] := by simp [g0]; rfl
    rw [hr.out] at h3
    simpa using h3.symm
  have hq2 : run[run.size - 1] = q := by
    have h3 : run.data.toList[run.size - 1]? = some run[run.size - 1] := by simp [gl]; rfl
    rw [hr.out] at h3
    have h4 : (q :: b ++ [q])[run.size - 1]? = some q := by
      rw [show run.size - 1 = b.length + 1 by omega, List.getElem?_append_right (by simp)]; simp
    rw [h4] at h3
    exact (Option.some.inj h3).symm
  clear hrl
  obtain ⟨E, hE⟩ : ∃ E, ((q.toNat : Int) != 96) = E := ⟨_, rfl⟩
  go_enter Try.func12, Try.ntmps12
  go_wp2
  go_loop [6] (fun i => ∃ k : Nat, 1 ≤ k ∧ k ≤ run.size - 1 ∧ i = .int .i64 k ∧ Hid (safe q (bodyAt run k) = safe q b)) (fun i => run.size - (intOf i).toNat)
  case atStart => exact ⟨1, Nat.le_refl _, by omega, rfl, hb1⟩
  case round =>
    obtain ⟨k, hk1, hk, rfl, hrel⟩ := hrel
    clear hb1
    by_cases hlt : k < run.size - 1
    · have hki : (k : Int) < (run.size : Int) - 1 := by omega
      have hkr : k < run.size := by omega
      have hki2 : (k : Int) < (run.size : Int) := by omega
      by_cases c1 : ((run[k].toNat : Int) == (q.toNat : Int)) = true
      · by_cases h1 : k + 1 < run.size - 1
        · have h1i : (k : Int) + 1 < (run.size : Int) - 1 := by omega
          have h1r : k + 1 < run.size := by omega
          have h1i2 : (k : Int) + 1 < (run.size : Int) := by omega
          by_cases c2 : ((run[k + 1].toNat : Int) == (q.toNat : Int)) = true
          · have hs := well_q3 h1 c1 c2
            have HS : Hid (safe q (bodyAt run (k + 2)) = safe q b) := hs.symm.trans hrel.out
            clear hs
            have c2n : ((run[k + 1].toNat : Int) != (q.toNat : Int)) = false := by rw [bne, c2]; rfl
            go_wp2
            go_round
            case rel => exact ⟨k + 2, by omega, by omega, by go_num, HS⟩
            case measure => simp [intOf]; omega
          · have c2f : ((run[k + 1].toNat : Int) == (q.toNat : Int)) = false := by simpa using c2
            clear c2
            have HS : Hid (safe q b = false) := hrel.out.symm.trans (well_q2 h1 c1 c2f)
            have c2n : ((run[k + 1].toNat : Int) != (q.toNat : Int)) = true := by rw [bne, c2f]; rfl
            go_wp2
            go_ret
            exact ⟨by rw [HS.out]; rfl, rfl⟩
        · have h1i : (run.size : Int) - 1 ≤ (k : Int) + 1 := by omega
          have HS : Hid (safe q b = false) := hrel.out.symm.trans (well_q1 hlt c1 (by omega))
          go_wp2
          go_ret
          exact ⟨by rw [HS.out]; rfl, rfl⟩
      · have c1f : ((run[k].toNat : Int) == (q.toNat : Int)) = false := by simpa using c1
        clear c1
        cases E
        · have hs := well_p hlt c1f (.inr hE)
          have HS : Hid (safe q (bodyAt run (k + 1)) = safe q b) := hs.symm.trans hrel.out
          clear hs
          go_wp2
          go_round
          case rel => exact ⟨k + 1, by omega, by omega, by go_num, HS⟩
          case measure => simp [intOf]; omega
        · by_cases c3 : ((run[k].toNat : Int) == 92) = true
          · by_cases h1 : k + 1 < run.size - 1
            · have h1i : (k : Int) + 1 < (run.size : Int) - 1 := by omega
              have hs := well_e2 h1 c1f c3 hE
              have HS : Hid (safe q (bodyAt run (k + 2)) = safe q b) := hs.symm.trans hrel.out
              clear hs
              go_wp2
              go_round
              case rel => exact ⟨k + 2, by omega, by omega, by go_num, HS⟩
              case measure => simp [intOf]; omega
            · have h1i : (run.size : Int) - 1 ≤ (k : Int) + 1 := by omega
              have HS : Hid (safe q b = false) := hrel.out.symm.trans (well_e1 hlt c3 hE (by omega))
              go_wp2
              go_ret
              exact ⟨by rw [HS.out]; rfl, rfl⟩
          · have c3f : ((run[k].toNat : Int) == 92) = false := by simpa using c3
            clear c3
            have hs := well_p hlt c1f (.inl c3f)
            have HS : Hid (safe q (bodyAt run (k + 1)) = safe q b) := hs.symm.trans hrel.out
            clear hs
            go_wp2
            go_round
            case rel => exact ⟨k + 1, by omega, by omega, by go_num, HS⟩
            case measure => simp [intOf]; omega
    · have hki : (run.size : Int) - 1 ≤ (k : Int) := by omega
      have HS : Hid (safe q b = true) := by
        have := hrel.out
        rw [body_end run k (by omega)] at this
        exact this.symm
      go_wp2
      go_ret
      exact ⟨by rw [HS.out]; rfl, rfl⟩
end Go.Proofs.Qxb6605290a
